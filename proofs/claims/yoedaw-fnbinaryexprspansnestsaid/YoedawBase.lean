import Derived.Test.YoedawRows
import Derived.WalkKit
import Derived.ProofKit
import Derived.ShutString
import Derived.ChangeOld
import Derived.Below
import Derived.RegionTactic
import Derived.ChangeAlike
import Derived.Deep.QuietTactic
import Derived.BigQuiet
import Derived.WalkLawsBesides
import Derived.WalkSpells
namespace Go.Proofs.Yoedaw
open Go.ChangeShapes Go.WideShapes Go.ChangeAt Go.RowKit

/-- '(*Ident).Pos'. -/
theorem identPos_any (b : Nat) (p : Int) (w : World) (h1 : w.cell? ⟨b, 1, none⟩ = some (.int .i64 p)) :
    Calls Edag.prog 15 #[.pointer (some ⟨b, 0, none⟩)] w fun e w' => e = .returned (.int .i64 p) ∧ w' = w := by
  go_enter Edag.func15, Edag.ntmps15
  go_wp2
  go_ret
  exact ⟨rfl, rfl⟩

/-- '(*Ident).End'. -/
theorem identEnd_any (b : Nat) (s : ByteArray) (p : Int) (w : World) (h0 : w.cell? ⟨b, 0, none⟩ = some (.string s)) (h1 : w.cell? ⟨b, 1, none⟩ = some (.int .i64 p))
    (hp0 : 0 ≤ p) (hp : p ≤ 1073741824) (hs : (s.size : Int) ≤ 1048576) :
    Calls Edag.prog 16 #[.pointer (some ⟨b, 0, none⟩)] w fun e w' => e = .returned (.int .i64 (p + s.size)) ∧ ∃ n, w' = w.drewN n := by
  go_enter Edag.func16, Edag.ntmps16
  go_wp2
  go_quiet (fail)
  go_wp2
  go_ret
  exact ⟨rfl, _, rfl⟩


theorem m36pos (a : Addr) (w : World) : (method 162 36 (.pointer (some a)) "Pos").run Edag.prog w = .ok (15, .pointer (some a)) w := by kernel_rfl
theorem m30pos (a : Addr) (w : World) : (method 162 30 (.pointer (some a)) "Pos").run Edag.prog w = .ok (9, .pointer (some a)) w := by kernel_rfl
theorem m36end (a : Addr) (w : World) : (method 162 36 (.pointer (some a)) "End").run Edag.prog w = .ok (16, .pointer (some a)) w := by kernel_rfl
theorem m30end (a : Addr) (w : World) : (method 162 30 (.pointer (some a)) "End").run Edag.prog w = .ok (10, .pointer (some a)) w := by kernel_rfl

/-- The identifier behind block b (above block g): its name and its position. -/
def IdAt (w : World) (g b : Nat) (x : ByteArray × Int) : Prop :=
  g < b ∧ w.cell? ⟨b, 0, none⟩ = some (.string x.1) ∧ w.cell? ⟨b, 1, none⟩ = some (.int .i64 x.2)

/-- Block b is node k of a chain: node 0 has the leaves L0, L1; node k + 1 has one leaf, 'Lx (k + 1)', and node k: on the left where 'right' is false. -/
def ChB (w : World) (g : Nat) (right : Bool) (L0 L1 : ByteArray × Int) (Lx : Nat → ByteArray × Int) (T : Nat → Int) : Nat → Nat → Prop
  | 0, b => ∃ i0 i1, g < b ∧ w.cell? ⟨b, 0, none⟩ = some (.iface 36 (.pointer (some ⟨i0, 0, none⟩))) ∧ w.cell? ⟨b, 1, none⟩ = some (.iface 36 (.pointer (some ⟨i1, 0, none⟩))) ∧
      w.cell? ⟨b, 2, none⟩ = some (.int .i64 (T 0)) ∧ IdAt w g i0 L0 ∧ IdAt w g i1 L1
  | k + 1, b => ∃ i b', g < b ∧ w.cell? ⟨b, 0, none⟩ = some (if right then .iface 36 (.pointer (some ⟨i, 0, none⟩)) else .iface 30 (.pointer (some ⟨b', 0, none⟩))) ∧
      w.cell? ⟨b, 1, none⟩ = some (if right then .iface 30 (.pointer (some ⟨b', 0, none⟩)) else .iface 36 (.pointer (some ⟨i, 0, none⟩))) ∧
      w.cell? ⟨b, 2, none⟩ = some (.int .i64 (T (k + 1))) ∧ IdAt w g i (Lx (k + 1)) ∧ ChB w g right L0 L1 Lx T k b'

/-- What lies above block g is kept. -/
def Keeps (g : Nat) (w w' : World) : Prop := ∀ (b o : Nat) (v : Value), g < b → w.cell? ⟨b, o, none⟩ = some v → w'.cell? ⟨b, o, none⟩ = some v

theorem IdAt.keep {w w' : World} {g b : Nat} {x : ByteArray × Int} (h : IdAt w g b x) (k : Keeps g w w') : IdAt w' g b x :=
  ⟨h.1, k _ _ _ h.1 h.2.1, k _ _ _ h.1 h.2.2⟩

theorem ChB.keep {w w' : World} {g : Nat} {right : Bool} {L0 L1 : ByteArray × Int} {Lx : Nat → ByteArray × Int} {T : Nat → Int} (kp : Keeps g w w') :
    ∀ (k b : Nat), ChB w g right L0 L1 Lx T k b → ChB w' g right L0 L1 Lx T k b := by
  intro k
  induction k with
  | zero =>
    rintro b ⟨i0, i1, hb, h0, h1, h2, hi0, hi1⟩
    exact ⟨i0, i1, hb, kp _ _ _ hb h0, kp _ _ _ hb h1, kp _ _ _ hb h2, hi0.keep kp, hi1.keep kp⟩
  | succ k ih =>
    rintro b ⟨i, b', hb, h0, h1, h2, hi, hc⟩
    exact ⟨i, b', hb, kp _ _ _ hb h0, kp _ _ _ hb h1, kp _ _ _ hb h2, hi.keep kp, ih b' hc⟩

theorem Keeps.drewN {w : World} (g n : Nat) : Keeps g w (w.drewN n) := fun _ _ _ _ h => by simpa using h

/-- Where node k begins. -/
def posOf (right : Bool) (L0 : ByteArray × Int) (Lx : Nat → ByteArray × Int) : Nat → Int
  | 0 => L0.2
  | k + 1 => if right then (Lx (k + 1)).2 else L0.2
/-- Where node k ends. -/
def endOf (right : Bool) (L1 : ByteArray × Int) (Lx : Nat → ByteArray × Int) : Nat → Int
  | 0 => L1.2 + L1.1.size
  | k + 1 => if right then L1.2 + L1.1.size else (Lx (k + 1)).2 + (Lx (k + 1)).1.size

set_option maxHeartbeats 400000 in
theorem pos_any (g : Nat) (right : Bool) (L0 L1 : ByteArray × Int) (Lx : Nat → ByteArray × Int) (T : Nat → Int) (k : Nat) :
    ∀ (b : Nat) (w : World), ChB w g right L0 L1 Lx T k b →
      Calls Edag.prog 9 #[.pointer (some ⟨b, 0, none⟩)] w fun e w' => e = .returned (.int .i64 (posOf right L0 Lx k)) ∧ w' = w := by
  have hm1 := m36pos
  have hm2 := m30pos
  induction k with
  | zero =>
    rintro b w ⟨i0, i1, hb, h0, h1, h2, ⟨_, hi0, hi1⟩, _⟩
    obtain ⟨p, hp⟩ : ∃ p, p = L0.2 := ⟨_, rfl⟩
    rw [← hp] at hi1
    have HP : Hid (p = L0.2) := hp
    show Calls Edag.prog 9 _ w fun e w' => e = .returned (.int .i64 L0.2) ∧ w' = w
    rw [← hp]
    clear hp
    go_enter Edag.func9, Edag.ntmps9
    go_wp2_with (go_at_call 15; refine (identPos_any _ _ _ hi1).mono ?_; rintro e w' ⟨rfl, rfl⟩)
    go_ret
    exact ⟨rfl, rfl⟩
  | succ k ih =>
    rintro b w ⟨i, b', hb, h0, h1, h2, ⟨_, hi0, hi1⟩, hc⟩
    cases right with
    | true =>
      clear ih hc
      show Calls Edag.prog 9 _ w fun e w' => e = .returned (.int .i64 (Lx (k + 1)).2) ∧ w' = w
      generalize (Lx (k + 1)).2 = p at *
      go_enter Edag.func9, Edag.ntmps9
      go_wp2_with (go_at_call 15; refine (identPos_any _ _ _ hi1).mono ?_; rintro e w' ⟨rfl, rfl⟩)
      go_ret
      exact ⟨rfl, rfl⟩
    | false =>
      have h := ih b' w hc
      have hp : posOf false L0 Lx k = L0.2 := by cases k <;> rfl
      rw [hp] at h
      show Calls Edag.prog 9 _ w fun e w' => e = .returned (.int .i64 L0.2) ∧ w' = w
      generalize L0.2 = p at *
      have H := h
      clear ih hc hp h
      have HH : Hid (Calls Edag.prog 9 #[.pointer (some ⟨b', 0, none⟩)] w fun e w' => e = .returned (.int .i64 p) ∧ w' = w) := H
      clear H
      simp only [Bool.false_eq_true, if_false] at h0
      go_enter Edag.func9, Edag.ntmps9
      go_wp2_with (go_at_call 9; refine HH.out.mono ?_; rintro e w' ⟨rfl, rfl⟩)
      go_ret
      exact ⟨rfl, rfl⟩
end Go.Proofs.Yoedaw
