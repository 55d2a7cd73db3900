import Derived.Test.YoedawPos
namespace Go.Proofs.Yoedaw
open Go.ChangeShapes Go.WideShapes Go.ChangeAt Go.RowKit

theorem Keeps.below {g : Nat} {w w' : World} (h : Below w.heap.size w w') : Keeps g w w' := fun _ _ _ _ hv => cell_later h hv

set_option maxRecDepth 100000 in
set_option maxHeartbeats 400000 in
/-- 'zzLeafIn' at a leaf that lies within [p, e]. -/
theorem leafIn_any {N nb no pb po ob oo n pl ol : Nat} {S : Nat → ByteArray} {P Z : Nat → Int} (nc pc : Nat) (i p e : Int) (j : Nat) (w : World) (G : Given w N nb no pb po ob oo n pl ol S P Z) (hij : i = (j : Int)) (hn : j < n) (hp : j < pl)
    (ht : Tiny n S P) (h1 : p ≤ P j) (h2 : P j + (S j).size ≤ e) :
    Calls Edag.prog 12 #[.slice (some ⟨nb, no, none⟩) n nc, .slice (some ⟨pb, po, none⟩) pl pc, .int .i64 i, .int .i64 p, .int .i64 e] w
      fun e w' => e = .returned (.bool true) ∧ Below w.heap.size w w' := by
  have hid := ident_given nc pc i j w G hij hn hp
  obtain ⟨ht0, ht1, ht2⟩ := ht j hn
  have HID : Hid (Calls Edag.prog 14 #[.slice (some ⟨nb, no, none⟩) n nc, .slice (some ⟨pb, po, none⟩) pl pc, .int .i64 i] w
      fun e w' => e = .returned (.pointer (some ⟨w.heap.size, 0, none⟩)) ∧ w' = w.alloc (.cells #[.string (S j), .int .i64 (P j)] 43)) := hid
  clear hid ht G hij
  generalize S j = s at *
  generalize P j = q at *
  have hle : q ≤ q + s.size := by omega
  go_enter Edag.func12, Edag.ntmps12
  go_wp2_with fail
  refine HID.out.mono ?_
  rintro e w' ⟨rfl, rfl⟩
  go_wp2_with fail
  refine (identPos_any _ q _ (by simp)).mono ?_
  rintro e w' ⟨rfl, rfl⟩
  go_wp2_with fail
  refine (identEnd_any _ s q _ (by simp) (by simp) ht0 ht1 ht2).mono ?_
  rintro e w' ⟨rfl, nx, rfl⟩
  go_wp2_with fail
  go_ret
  refine ⟨by simp [*], ?_⟩
  exact below_drewN ((Below.refl _ _).alloc (Nat.le_refl _) _) _
end Go.Proofs.Yoedaw
