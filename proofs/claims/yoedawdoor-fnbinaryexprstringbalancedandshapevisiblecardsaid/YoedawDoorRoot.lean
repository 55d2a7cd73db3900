import Derived.Test.YoedawDoorAppend
import Derived.Test.YoedawDoorClone
import Derived.Test.YoedawDoorBytes
namespace Go.Proofs.YoedawDoor
open Go.ChangeShapes Go.WideShapes Go.ChangeAt Go.RowKit

theorem hid_of {p : Prop} (h : p) : Hid p := h
theorem Keeps.below {g : Nat} {w w' : World} (h : Below w.heap.size w w') : Keeps g w w' := fun _ _ _ _ hv => cell_later h hv
/-- Two steps, each below the size of its world. -/
theorem below_step {a b c : World} (h : Below a.heap.size a b) (k : Below b.heap.size b c) : Below a.heap.size a c := h.trans (k.mono h.size)

/-- Names are small. -/
def Tiny (n : Nat) (S : Nat → ByteArray) : Prop := ∀ j, j < n → ((S j).size : Int) ≤ 1048576

/-- The text of the left chain's root. -/
theorem root_left {g n b : Nat} {S : Nat → ByteArray} {Z : Nat → Int} {w : World} (hn : 2 ≤ n) (hn2 : n ≤ 4096) (ht : Tiny n S) (htk : Toks w)
    (h : ChB w g false (S 0, 0) (S 1, 0) (fun k => (S (k + 1), 0)) (fun k => tokOf (Z k)) (n - 1 - 1) b) :
    Calls Edag.prog 9 #[.pointer (some ⟨b, 0, none⟩)] w fun e w' => e = .returned (.string ⟨(lefts n (fun j => bl (S j)) (fun j => bl (strOf (Z j))) (n - 1)).toArray⟩) ∧ Below w.heap.size w w' := by
  have h0 := ht 0 (by omega)
  have h1 := ht 1 (by omega)
  have hs := string_any g false (S 0, 0) (S 1, 0) (fun k => (S (k + 1), 0)) Z (by show (S 0).size ≤ _; omega) (by show (S 1).size ≤ _; omega) (n - 1 - 1) (by omega) (fun j hj => by have := ht (j + 1) (by omega); show (S (j + 1)).size ≤ _; omega) b w htk h
  refine hs.mono ?_
  rintro e w' ⟨rfl, m, rfl⟩
  exact ⟨by rw [← txt_leftForm n hn S Z], below_drewN (Below.refl _ _) m⟩

/-- The text of the right chain's root. -/
theorem root_right {g n b : Nat} {S : Nat → ByteArray} {Z : Nat → Int} {w : World} (hn : 2 ≤ n) (hn2 : n ≤ 4096) (ht : Tiny n S) (htk : Toks w)
    (h : ChB w g true (S (n - 2), 0) (S (n - 1), 0) (fun k => (S (n - 2 - k), 0)) (fun k => tokOf (Z (n - 2 - k))) (n - 1 - 1) b) :
    Calls Edag.prog 9 #[.pointer (some ⟨b, 0, none⟩)] w fun e w' => e = .returned (.string ⟨(rightForm n (fun j => bl (S j)) (fun j => bl (strOf (Z j))) (n - 1)).toArray⟩) ∧ Below w.heap.size w w' := by
  have h0 := ht (n - 2) (by omega)
  have h1 := ht (n - 1) (by omega)
  have hs := string_any g true (S (n - 2), 0) (S (n - 1), 0) (fun k => (S (n - 2 - k), 0)) (fun k => Z (n - 2 - k)) (by show (S (n - 2)).size ≤ _; omega) (by show (S (n - 1)).size ≤ _; omega) (n - 1 - 1) (by omega) (fun j hj => by have := ht (n - 2 - j) (by omega); show (S (n - 2 - j)).size ≤ _; omega) b w htk h
  refine hs.mono ?_
  rintro e w' ⟨rfl, m, rfl⟩
  exact ⟨by rw [← txt_rightForm n hn S Z], below_drewN (Below.refl _ _) m⟩

/-- Behind the two clones: what 'zzBuild' is handed, and that nothing old has turned. -/
theorem given_clones {w w1 w2 : World} {n ol : Nat} {S : Nat → ByteArray} {Z : Nat → Int} (hb1 : Below w.heap.size w w1) (hz1 : w1.heap.size = w.heap.size + 1) (hc1 : ∀ k, k < n → w1.cell? ⟨w.heap.size, k, none⟩ = some (.string (S k)))
    (hb2 : Below w1.heap.size w1 w2) (hz2 : w2.heap.size = w1.heap.size + 1) (hc2 : ∀ k, k < ol → w2.cell? ⟨w1.heap.size, k, none⟩ = some (.int .i64 (Z k))) :
    Given w2 w2.heap.size w.heap.size 0 w1.heap.size 0 n ol S Z ∧ Below w.heap.size w w2 := by
  refine ⟨⟨by omega, by omega, fun k hk => ?_, fun k hk => ?_⟩, hb1.trans (hb2.mono (by omega))⟩
  · rw [Nat.zero_add, hb2.cell (by show w.heap.size < _; omega)]
    exact hc1 k hk
  · rw [Nat.zero_add]
    exact hc2 k hk

/-! ### Lengths -/
theorem tails_len (S O : Nat → List UInt8) (n : Nat) (hS : ∀ j, j < n → (S j).length ≤ 1048576) (hO : ∀ j, (O j).length ≤ 2) (k : Nat) (hk : k < n) : (tails S O k).length ≤ 1048600 * k := by
  induction k with
  | zero => simp [tails]
  | succ k ih =>
    have h1 := ih (by omega)
    have h2 := hS (k + 1) hk
    have h3 := hO k
    simp only [tails, List.length_append, List.length_cons, List.length_nil]
    omega
theorem lefts_len (S O : Nat → List UInt8) (n : Nat) (hn : 2 ≤ n) (hn2 : n ≤ 4096) (hS : ∀ j, j < n → (S j).length ≤ 1048576) (hO : ∀ j, (O j).length ≤ 2) (k : Nat) (hk : k < n) : (lefts n S O k).length ≤ 4294967296 + 1048600 * k := by
  have h1 := tails_len S O n hS hO k hk
  have h2 := hS 0 (by omega)
  simp only [lefts, List.length_append, List.length_replicate]
  omega
theorem rights_len (S O : Nat → List UInt8) (n : Nat) (hS : ∀ j, j < n → (S j).length ≤ 1048576) (hO : ∀ j, (O j).length ≤ 2) (k : Nat) (hk : k ≤ n) : (rights S O k).length ≤ 1048600 * k := by
  induction k with
  | zero => simp [rights]
  | succ k ih =>
    have h1 := ih (by omega)
    have h2 := hS k hk
    have h3 := hO k
    simp only [rights, List.length_append, List.length_cons, List.length_nil]
    omega
theorem rightForm_len (S O : Nat → List UInt8) (n : Nat) (hn : 2 ≤ n) (hn2 : n ≤ 4096) (hS : ∀ j, j < n → (S j).length ≤ 1048576) (hO : ∀ j, (O j).length ≤ 2) (k : Nat) (hk : k ≤ n) : (rightForm n S O k).length ≤ 8589934592 := by
  have h1 := rights_len S O n hS hO (n - 1) (by omega)
  have h2 := hS (n - 1) (by omega)
  simp only [rightForm, List.length_append, List.length_replicate]
  omega
end Go.Proofs.YoedawDoor
