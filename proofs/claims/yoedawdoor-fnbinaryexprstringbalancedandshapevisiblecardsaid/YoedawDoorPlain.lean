import Derived.Test.YoedawDoorString
namespace Go.Proofs.YoedawDoor

/-- A string's bytes. -/
def bl (s : ByteArray) : List UInt8 := s.data.toList

theorem bl_append (a b : ByteArray) : bl (a ++ b) = bl a ++ bl b := by
  simp [bl]

theorem bl_length (a : ByteArray) : (bl a).length = a.size := by
  simp [bl]

theorem of_bl {s : ByteArray} {l : List UInt8} (h : bl s = l) : s = ⟨l.toArray⟩ := by
  subst h
  simp [bl]

theorem bl_nodeTxt (a o b : ByteArray) : bl (nodeTxt a o b) = [40] ++ bl a ++ [32] ++ bl o ++ [32] ++ bl b ++ [41] := by
  simp only [nodeTxt, bl_append]
  rfl

/-- What stands behind the first name in the left chain, k rounds long. -/
def tails (S O : Nat → List UInt8) : Nat → List UInt8
  | 0 => []
  | k + 1 => tails S O k ++ [32] ++ O k ++ [32] ++ S (k + 1) ++ [41]
/-- The left chain's form behind k rounds. -/
def lefts (n : Nat) (S O : Nat → List UInt8) (k : Nat) : List UInt8 := List.replicate (n - 1) 40 ++ S 0 ++ tails S O k
/-- The right chain's form behind k rounds of opening. -/
def rights (S O : Nat → List UInt8) : Nat → List UInt8
  | 0 => []
  | k + 1 => rights S O k ++ [40] ++ S k ++ [32] ++ O k ++ [32]
/-- The right chain's form behind k rounds of closing. -/
def rightForm (n : Nat) (S O : Nat → List UInt8) (k : Nat) : List UInt8 := rights S O (n - 1) ++ S (n - 1) ++ List.replicate k 41

theorem txt_left (S : Nat → ByteArray) (Z : Nat → Int) (k : Nat) :
    bl (txt false (S 0) (S 1) (fun k => S (k + 1)) Z k) = List.replicate (k + 1) 40 ++ bl (S 0) ++ tails (fun j => bl (S j)) (fun j => bl (strOf (Z j))) (k + 1) := by
  induction k with
  | zero => simp [txt, bl_nodeTxt, tails]
  | succ k ih =>
    have e : txt false (S 0) (S 1) (fun k => S (k + 1)) Z (k + 1) = nodeTxt (txt false (S 0) (S 1) (fun k => S (k + 1)) Z k) (strOf (Z (k + 1))) (S (k + 2)) := by simp [txt]
    rw [e, bl_nodeTxt, ih, List.replicate_succ (n := k + 1)]
    simp [tails, List.append_assoc]

theorem txt_leftForm (n : Nat) (hn : 2 ≤ n) (S : Nat → ByteArray) (Z : Nat → Int) :
    txt false (S 0) (S 1) (fun k => S (k + 1)) Z (n - 1 - 1) = ⟨(lefts n (fun j => bl (S j)) (fun j => bl (strOf (Z j))) (n - 1)).toArray⟩ := by
  apply of_bl
  rw [txt_left, lefts, show n - 1 - 1 + 1 = n - 1 from by omega]

theorem txt_right (n : Nat) (hn : 2 ≤ n) (S : Nat → ByteArray) (Z : Nat → Int) (k : Nat) (hk : k ≤ n - 2) :
    rights (fun j => bl (S j)) (fun j => bl (strOf (Z j))) (n - 2 - k) ++ bl (txt true (S (n - 2)) (S (n - 1)) (fun k => S (n - 2 - k)) (fun k => Z (n - 2 - k)) k) ++ List.replicate (n - 2 - k) 41 =
      rightForm n (fun j => bl (S j)) (fun j => bl (strOf (Z j))) (n - 1) := by
  induction k with
  | zero =>
    obtain ⟨m, rfl⟩ : ∃ m, n = m + 2 := ⟨n - 2, by omega⟩
    have e2 : m + 2 - 1 = m + 1 := by omega
    have e3 : m + 2 - 2 = m := by omega
    rw [rightForm, txt, bl_nodeTxt]
    simp only [e2, e3, rights]
    rw [List.replicate_succ]
    simp [List.append_assoc]
  | succ k ih =>
    rw [← ih (by omega)]
    obtain ⟨j, hj⟩ : ∃ j, n - 2 - (k + 1) = j := ⟨_, rfl⟩
    have e1 : n - 2 - k = j + 1 := by omega
    have e : txt true (S (n - 2)) (S (n - 1)) (fun k => S (n - 2 - k)) (fun k => Z (n - 2 - k)) (k + 1) = nodeTxt (S j) (strOf (Z j)) (txt true (S (n - 2)) (S (n - 1)) (fun k => S (n - 2 - k)) (fun k => Z (n - 2 - k)) k) := by
      simp only [txt, if_true, hj]
    rw [e, bl_nodeTxt, hj, e1, rights, List.replicate_succ]
    simp [List.append_assoc]

theorem txt_rightForm (n : Nat) (hn : 2 ≤ n) (S : Nat → ByteArray) (Z : Nat → Int) :
    txt true (S (n - 2)) (S (n - 1)) (fun k => S (n - 2 - k)) (fun k => Z (n - 2 - k)) (n - 1 - 1) = ⟨(rightForm n (fun j => bl (S j)) (fun j => bl (strOf (Z j))) (n - 1)).toArray⟩ := by
  apply of_bl
  have h := txt_right n hn S Z (n - 1 - 1) (by omega)
  rw [show n - 2 - (n - 1 - 1) = 0 from by omega] at h
  simpa [rights] using h
end Go.Proofs.YoedawDoor
