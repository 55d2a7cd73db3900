import Derived.Test.YoedawBuildR
import Derived.Test.YoedawClone
import Derived.Test.YoedawBytes
namespace Go.Proofs.Yoedaw
open Go.ChangeShapes Go.WideShapes Go.ChangeAt Go.RowKit

/-- Names and positions are small. -/
def Tiny (n : Nat) (S : Nat → ByteArray) (P : Nat → Int) : Prop := ∀ j, j < n → 0 ≤ P j ∧ P j ≤ 1073741824 ∧ ((S j).size : Int) ≤ 1048576

/-- Node k of the left chain. -/
def LeftAt (w : World) (g n : Nat) (S : Nat → ByteArray) (P Z : Nat → Int) (k b : Nat) : Prop :=
  ChB w g false (S 0, P 0) (S 1, P 1) (fun k => (S (k + 1), P (k + 1))) (fun k => tokOf (Z k)) k b ∧ k < n - 1
/-- Node k of the right chain. -/
def RightAt (w : World) (g n : Nat) (S : Nat → ByteArray) (P Z : Nat → Int) (k b : Nat) : Prop :=
  ChB w g true (S (n - 2), P (n - 2)) (S (n - 1), P (n - 1)) (fun k => (S (n - 2 - k), P (n - 2 - k))) (fun k => tokOf (Z (n - 2 - k))) k b ∧ k < n - 1
theorem LeftAt.keep {w w' : World} {g n : Nat} {S : Nat → ByteArray} {P Z : Nat → Int} {k b : Nat} (h : LeftAt w g n S P Z k b) (kp : Keeps g w w') : LeftAt w' g n S P Z k b := ⟨ChB.keep kp _ _ h.1, h.2⟩
theorem RightAt.keep {w w' : World} {g n : Nat} {S : Nat → ByteArray} {P Z : Nat → Int} {k b : Nat} (h : RightAt w g n S P Z k b) (kp : Keeps g w w') : RightAt w' g n S P Z k b := ⟨ChB.keep kp _ _ h.1, h.2⟩

variable {g n : Nat} {S : Nat → ByteArray} {P Z : Nat → Int} {k b : Nat} {w : World}

theorem pos_left (h : LeftAt w g n S P Z k b) : Calls Edag.prog 9 #[.pointer (some ⟨b, 0, none⟩)] w fun e w' => e = .returned (.int .i64 (P 0)) ∧ w' = w := by
  have := pos_any _ _ _ _ _ _ k b w h.1
  have e : posOf false (S 0, P 0) (fun k => (S (k + 1), P (k + 1))) k = P 0 := by cases k <;> rfl
  rwa [e] at this

theorem pos_right (h : RightAt w g n S P Z k b) : Calls Edag.prog 9 #[.pointer (some ⟨b, 0, none⟩)] w fun e w' => e = .returned (.int .i64 (P (n - 2 - k))) ∧ w' = w := by
  have := pos_any _ _ _ _ _ _ k b w h.1
  have e : posOf true (S (n - 2), P (n - 2)) (fun k => (S (n - 2 - k), P (n - 2 - k))) k = P (n - 2 - k) := by cases k <;> rfl
  rwa [e] at this

theorem end_left (ht : Tiny n S P) (h : LeftAt w g n S P Z k b) : Calls Edag.prog 10 #[.pointer (some ⟨b, 0, none⟩)] w fun e w' => e = .returned (.int .i64 (P (k + 1) + (S (k + 1)).size)) ∧ ∃ m, w' = w.drewN m := by
  have hk := h.2
  have := end_any _ _ _ (S 1, P 1) (fun k => (S (k + 1), P (k + 1))) _ (ht 1 (by omega)) k (fun j hj => ht (j + 1) (by omega)) b w h.1
  have e : endOf false (S 1, P 1) (fun k => (S (k + 1), P (k + 1))) k = P (k + 1) + (S (k + 1)).size := by cases k <;> rfl
  rwa [e] at this

theorem end_right (ht : Tiny n S P) (h : RightAt w g n S P Z k b) : Calls Edag.prog 10 #[.pointer (some ⟨b, 0, none⟩)] w fun e w' => e = .returned (.int .i64 (P (n - 1) + (S (n - 1)).size)) ∧ ∃ m, w' = w.drewN m := by
  have hk := h.2
  have := end_any _ _ _ (S (n - 1), P (n - 1)) (fun k => (S (n - 2 - k), P (n - 2 - k))) _ (ht (n - 1) (by omega)) k (fun j hj => ht (n - 2 - j) (by omega)) b w h.1
  have e : endOf true (S (n - 1), P (n - 1)) (fun k => (S (n - 2 - k), P (n - 2 - k))) k = P (n - 1) + (S (n - 1)).size := by cases k <;> rfl
  rwa [e] at this

theorem quiet_add_same {p : Program} {f : FuncId} {args : Array Value} {w : World} {a m : Nat} {v : Value}
    (h : Calls p f args (w.drewN (a + m)) fun e w' => e = .returned v ∧ w' = w.drewN (a + m)) : Calls p f args (w.drewN (a + m)) fun e w'' => e = .returned v ∧ ∃ j, w'' = w.drewN (a + j) :=
  h.mono fun _ _ ⟨he, hm⟩ => ⟨he, m, hm⟩
theorem quiet_add {p : Program} {f : FuncId} {args : Array Value} {w : World} {a m : Nat} {v : Value}
    (h : Calls p f args (w.drewN (a + m)) fun e w' => e = .returned v ∧ ∃ j, w' = (w.drewN (a + m)).drewN j) : Calls p f args (w.drewN (a + m)) fun e w'' => e = .returned v ∧ ∃ j, w'' = w.drewN (a + j) :=
  h.mono fun _ _ ⟨he, j, hm⟩ => ⟨he, m + j, by rw [hm, World.drewN_drewN, Nat.add_assoc]⟩

/-- Behind the three clones: what 'zzBuild' is handed, and that nothing old has turned. -/
theorem given_clones {w w1 w2 w3 : World} {n pl ol : Nat} {S : Nat → ByteArray} {P Z : Nat → Int} (hb1 : Below w.heap.size w w1) (hz1 : w1.heap.size = w.heap.size + 1) (hc1 : ∀ k, k < n → w1.cell? ⟨w.heap.size, k, none⟩ = some (.string (S k)))
    (hb2 : Below w1.heap.size w1 w2) (hz2 : w2.heap.size = w1.heap.size + 1) (hc2 : ∀ k, k < pl → w2.cell? ⟨w1.heap.size, k, none⟩ = some (.int .i64 (P k)))
    (hb3 : Below w2.heap.size w2 w3) (hz3 : w3.heap.size = w2.heap.size + 1) (hc3 : ∀ k, k < ol → w3.cell? ⟨w2.heap.size, k, none⟩ = some (.int .i64 (Z k))) :
    Given w3 w3.heap.size w.heap.size 0 w1.heap.size 0 w2.heap.size 0 n pl ol S P Z ∧ Below w.heap.size w w3 := by
  refine ⟨⟨by omega, by omega, by omega, fun k hk => ?_, fun k hk => ?_, fun k hk => ?_⟩, (hb1.trans (hb2.mono (by omega))).trans (hb3.mono (by omega))⟩
  · rw [Nat.zero_add, hb3.cell (by show w.heap.size < _; omega), hb2.cell (by show w.heap.size < _; omega)]
    exact hc1 k hk
  · rw [Nat.zero_add, hb3.cell (by show w1.heap.size < _; omega)]
    exact hc2 k hk
  · rw [Nat.zero_add]
    exact hc3 k hk
end Go.Proofs.Yoedaw
