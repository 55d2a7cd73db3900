import Derived.Test.YoedawLeaf
namespace Go.Proofs.Yoedaw
open Go.ChangeShapes Go.WideShapes Go.ChangeAt Go.RowKit

/-- The leaves lie in order. -/
def Sorted (n : Nat) (S : Nat → ByteArray) (P : Nat → Int) : Prop := ∀ j, j + 1 < n → P j + (S j).size ≤ P (j + 1)
theorem Sorted.mono {n : Nat} {S : Nat → ByteArray} {P : Nat → Int} (h : Sorted n S P) (i d : Nat) : i + d < n → P i ≤ P (i + d) ∧ P i + (S i).size ≤ P (i + d) + (S (i + d)).size := by
  induction d with
  | zero => intro _; exact ⟨Int.le_refl _, Int.le_refl _⟩
  | succ d ih =>
    intro hd
    have h1 := ih (by omega)
    have h2 := h (i + d) (by omega)
    have e : i + (d + 1) = i + d + 1 := by omega
    rw [e]
    omega
theorem Sorted.le {n : Nat} {S : Nat → ByteArray} {P : Nat → Int} (h : Sorted n S P) {i j : Nat} (hij : i ≤ j) (hj : j < n) : P i ≤ P j ∧ P i + (S i).size ≤ P j + (S j).size := by
  obtain ⟨d, rfl⟩ : ∃ d, j = i + d := ⟨j - i, by omega⟩
  exact h.mono i d hj

/-- 'End' of a node, the world told by 'Below'. -/
theorem end_left' {g n : Nat} {S : Nat → ByteArray} {P Z : Nat → Int} {k b : Nat} {w : World} (ht : Tiny n S P) (h : LeftAt w g n S P Z k b) : Calls Edag.prog 10 #[.pointer (some ⟨b, 0, none⟩)] w fun e w' => e = .returned (.int .i64 (P (k + 1) + (S (k + 1)).size)) ∧ Below w.heap.size w w' :=
  (end_left ht h).mono fun _ _ ⟨he, n, hw⟩ => ⟨he, by rw [hw]; exact below_drewN (Below.refl _ _) n⟩
theorem end_right' {g n : Nat} {S : Nat → ByteArray} {P Z : Nat → Int} {k b : Nat} {w : World} (ht : Tiny n S P) (h : RightAt w g n S P Z k b) : Calls Edag.prog 10 #[.pointer (some ⟨b, 0, none⟩)] w fun e w' => e = .returned (.int .i64 (P (n - 1) + (S (n - 1)).size)) ∧ Below w.heap.size w w' :=
  (end_right ht h).mono fun _ _ ⟨he, n, hw⟩ => ⟨he, by rw [hw]; exact below_drewN (Below.refl _ _) n⟩
/-- Two steps, each below the size of its world. -/
theorem below_step {a b c : World} (h : Below a.heap.size a b) (k : Below b.heap.size b c) : Below a.heap.size a c := h.trans (k.mono h.size)
end Go.Proofs.Yoedaw
