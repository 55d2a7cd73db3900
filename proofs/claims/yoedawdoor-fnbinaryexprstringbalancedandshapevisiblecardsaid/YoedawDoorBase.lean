import Derived.Test.YoedawDoorRows
import Derived.WalkKit
import Derived.ProofKit
import Derived.ShutString
import Derived.ChangeOld
import Derived.Below
import Derived.RegionTactic
import Derived.ChangeAlike
import Derived.Deep.QuietTactic
import Derived.BigQuiet
import Derived.WalkLawsBesides
import Derived.WalkSpells
namespace Go.Proofs.YoedawDoor
open Go.ChangeShapes Go.WideShapes Go.ChangeAt Go.RowKit

/-- The identifier behind block b (above block g): its name and its position. -/
def IdAt (w : World) (g b : Nat) (x : ByteArray × Int) : Prop :=
  g < b ∧ w.cell? ⟨b, 0, none⟩ = some (.string x.1) ∧ w.cell? ⟨b, 1, none⟩ = some (.int .i64 x.2)

/-- Block b is node k of a chain: node 0 has the leaves L0, L1; node k + 1 has one leaf, 'Lx (k + 1)', and node k: on the left where 'right' is false. -/
def ChB (w : World) (g : Nat) (right : Bool) (L0 L1 : ByteArray × Int) (Lx : Nat → ByteArray × Int) (T : Nat → Int) : Nat → Nat → Prop
  | 0, b => ∃ i0 i1, g < b ∧ w.cell? ⟨b, 0, none⟩ = some (.iface 37 (.pointer (some ⟨i0, 0, none⟩))) ∧ w.cell? ⟨b, 1, none⟩ = some (.iface 37 (.pointer (some ⟨i1, 0, none⟩))) ∧
      w.cell? ⟨b, 2, none⟩ = some (.int .i64 (T 0)) ∧ IdAt w g i0 L0 ∧ IdAt w g i1 L1
  | k + 1, b => ∃ i b', g < b ∧ w.cell? ⟨b, 0, none⟩ = some (if right then .iface 37 (.pointer (some ⟨i, 0, none⟩)) else .iface 29 (.pointer (some ⟨b', 0, none⟩))) ∧
      w.cell? ⟨b, 1, none⟩ = some (if right then .iface 29 (.pointer (some ⟨b', 0, none⟩)) else .iface 37 (.pointer (some ⟨i, 0, none⟩))) ∧
      w.cell? ⟨b, 2, none⟩ = some (.int .i64 (T (k + 1))) ∧ IdAt w g i (Lx (k + 1)) ∧ ChB w g right L0 L1 Lx T k b'

/-- What lies above block g is kept. -/
def Keeps (g : Nat) (w w' : World) : Prop := ∀ (b o : Nat) (v : Value), g < b → w.cell? ⟨b, o, none⟩ = some v → w'.cell? ⟨b, o, none⟩ = some v

theorem IdAt.keep {w w' : World} {g b : Nat} {x : ByteArray × Int} (h : IdAt w g b x) (k : Keeps g w w') : IdAt w' g b x :=
  ⟨h.1, k _ _ _ h.1 h.2.1, k _ _ _ h.1 h.2.2⟩

theorem ChB.keep {w w' : World} {g : Nat} {right : Bool} {L0 L1 : ByteArray × Int} {Lx : Nat → ByteArray × Int} {T : Nat → Int} (kp : Keeps g w w') :
    ∀ (k b : Nat), ChB w g right L0 L1 Lx T k b → ChB w' g right L0 L1 Lx T k b := by
  intro k
  induction k with
  | zero =>
    rintro b ⟨i0, i1, hb, h0, h1, h2, hi0, hi1⟩
    exact ⟨i0, i1, hb, kp _ _ _ hb h0, kp _ _ _ hb h1, kp _ _ _ hb h2, hi0.keep kp, hi1.keep kp⟩
  | succ k ih =>
    rintro b ⟨i, b', hb, h0, h1, h2, hi, hc⟩
    exact ⟨i, b', hb, kp _ _ _ hb h0, kp _ _ _ hb h1, kp _ _ _ hb h2, hi.keep kp, ih b' hc⟩

theorem Keeps.drewN {w : World} (g n : Nat) : Keeps g w (w.drewN n) := fun _ _ _ _ h => by simpa using h

end Go.Proofs.YoedawDoor
