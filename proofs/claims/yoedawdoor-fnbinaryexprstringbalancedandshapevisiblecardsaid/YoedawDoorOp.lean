import Derived.Test.YoedawDoorBase
namespace Go.Proofs.YoedawDoor
open Go.ChangeShapes Go.WideShapes Go.ChangeAt Go.RowKit

/-! ### zzOp -/
def tokTab : List Int := [11, 12, 13, 14, 15, 16, 17, 18, 19, 20, 21, 33, 34, 37, 42, 38, 39, 43]
def strTab : List (List UInt8) := [[43], [45], [42], [47], [37], [38], [124], [94], [60, 60], [62, 62], [38, 94], [38, 38], [124, 124], [61, 61], [33, 61], [60], [62], [60, 61]]
def tokOf (k : Int) : Int := tokTab.getD (k % 19).toNat 44
def strOf (k : Int) : ByteArray := ⟨(strTab.getD (k % 19).toNat [62, 61]).toArray⟩

theorem tmod_facts (k : Int) : (0 ≤ k.tmod 19 → k % 19 = k.tmod 19) ∧ (k.tmod 19 < 0 → k % 19 = k.tmod 19 + 19) ∧ -19 < k.tmod 19 ∧ k.tmod 19 < 19 := by
  rw [Int.tmod_eq_emod]
  split <;> simp <;> omega

set_option maxHeartbeats 3200000 in
theorem op_any (k : Int) (w : World) :
    Calls Edag.prog 10 #[.int .i64 k] w fun e w' => e = .returned (.tuple #[.int .i64 (tokOf k), .string (strOf k)]) ∧ w' = w := by
  obtain ⟨h1, h2, h3, h4⟩ := tmod_facts k
  have H1 : Hid (0 ≤ k.tmod 19 → k % 19 = k.tmod 19) := h1
  have H2 : Hid (k.tmod 19 < 0 → k % 19 = k.tmod 19 + 19) := h2
  clear h1 h2
  go_enter Edag.func10, Edag.ntmps10
  go_wp2
  all_goals
    go_ret2
    refine ⟨?_, rfl⟩
    have h1 := H1.out
    have h2 := H2.out
    clear H1 H2
    simp only [beq_iff_eq, beq_eq_false_iff_ne, ne_eq] at *
    first
    | ((have h19 : k % 19 = 0 := by omega); simp [tokOf, strOf, tokTab, strTab, h19])
    | ((have h19 : k % 19 = 1 := by omega); simp [tokOf, strOf, tokTab, strTab, h19])
    | ((have h19 : k % 19 = 2 := by omega); simp [tokOf, strOf, tokTab, strTab, h19])
    | ((have h19 : k % 19 = 3 := by omega); simp [tokOf, strOf, tokTab, strTab, h19])
    | ((have h19 : k % 19 = 4 := by omega); simp [tokOf, strOf, tokTab, strTab, h19])
    | ((have h19 : k % 19 = 5 := by omega); simp [tokOf, strOf, tokTab, strTab, h19])
    | ((have h19 : k % 19 = 6 := by omega); simp [tokOf, strOf, tokTab, strTab, h19])
    | ((have h19 : k % 19 = 7 := by omega); simp [tokOf, strOf, tokTab, strTab, h19])
    | ((have h19 : k % 19 = 8 := by omega); simp [tokOf, strOf, tokTab, strTab, h19])
    | ((have h19 : k % 19 = 9 := by omega); simp [tokOf, strOf, tokTab, strTab, h19])
    | ((have h19 : k % 19 = 10 := by omega); simp [tokOf, strOf, tokTab, strTab, h19])
    | ((have h19 : k % 19 = 11 := by omega); simp [tokOf, strOf, tokTab, strTab, h19])
    | ((have h19 : k % 19 = 12 := by omega); simp [tokOf, strOf, tokTab, strTab, h19])
    | ((have h19 : k % 19 = 13 := by omega); simp [tokOf, strOf, tokTab, strTab, h19])
    | ((have h19 : k % 19 = 14 := by omega); simp [tokOf, strOf, tokTab, strTab, h19])
    | ((have h19 : k % 19 = 15 := by omega); simp [tokOf, strOf, tokTab, strTab, h19])
    | ((have h19 : k % 19 = 16 := by omega); simp [tokOf, strOf, tokTab, strTab, h19])
    | ((have h19 : k % 19 = 17 := by omega); simp [tokOf, strOf, tokTab, strTab, h19])
    | ((have h19 : k % 19 = 18 := by omega); simp [tokOf, strOf, tokTab, strTab, h19])
end Go.Proofs.YoedawDoor
