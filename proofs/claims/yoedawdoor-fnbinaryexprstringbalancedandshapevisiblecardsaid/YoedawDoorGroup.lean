import Derived.Test.YoedawDoorRoot
namespace Go.Proofs.YoedawDoor

/-- The depth behind a word. -/
def dep (l : List UInt8) : Int := (l.count 40 : Int) - (l.count 41 : Int)
theorem dep_append (a b : List UInt8) : dep (a ++ b) = dep a + dep b := by
  simp only [dep, List.count_append]
  omega
theorem dep_le (l : List UInt8) : -(l.length : Int) ≤ dep l ∧ dep l ≤ l.length ∧ (l.count 40 : Int) ≤ l.length := by
  have h1 := List.count_le_length (a := (40 : UInt8)) (l := l)
  have h2 := List.count_le_length (a := (41 : UInt8)) (l := l)
  unfold dep
  omega
/-- No parenthesis. -/
def Free (l : List UInt8) : Prop := 40 ∉ l ∧ 41 ∉ l
theorem Free.dep {l : List UInt8} (h : Free l) : dep l = 0 ∧ l.count 40 = 0 := by
  have h1 := List.count_eq_zero.2 h.1
  have h2 := List.count_eq_zero.2 h.2
  unfold YoedawDoor.dep
  omega
theorem Free.take {l : List UInt8} (h : Free l) (i : Nat) : Free (l.take i) := ⟨fun hm => h.1 (List.mem_of_mem_take hm), fun hm => h.2 (List.mem_of_mem_take hm)⟩

/-- Balanced. -/
def Bal (l : List UInt8) : Prop := dep l = 0 ∧ ∀ i, 0 ≤ dep (l.take i)
theorem Free.bal {l : List UInt8} (h : Free l) : Bal l := ⟨h.dep.1, fun i => by rw [(h.take i).dep.1]; exact Int.le_refl _⟩
theorem Bal.append {a b : List UInt8} (ha : Bal a) (hb : Bal b) : Bal (a ++ b) := by
  refine ⟨by rw [dep_append, ha.1, hb.1]; rfl, fun i => ?_⟩
  rw [List.take_append, dep_append]
  have h1 := ha.2 i
  have h2 := hb.2 (i - a.length)
  omega
theorem space : Free [32] := by constructor <;> decide

/-- One group: opened by its first byte, closed by its last, with p pairs. -/
def Group (l : List UInt8) (p : Nat) : Prop :=
  2 ≤ l.length ∧ l[0]? = some 40 ∧ l[l.length - 1]? = some 41 ∧ (∀ i, 0 < i → i < l.length → 1 ≤ dep (l.take i)) ∧ dep l = 0 ∧ l.count 40 = p

theorem group_of_bal {m : List UInt8} (h : Bal m) : Group ([40] ++ m ++ [41]) (m.count 40 + 1) ∧ Bal ([40] ++ m ++ [41]) := by
  have hd : dep ([40] ++ m ++ [41]) = 0 := by
    rw [dep_append, dep_append, h.1]
    decide
  have hp : ∀ i, 0 < i → i < ([40] ++ m ++ [41]).length → 1 ≤ dep (([40] ++ m ++ [41]).take i) := by
    intro i h0 hi
    obtain ⟨j, rfl⟩ : ∃ j, i = j + 1 := ⟨i - 1, by omega⟩
    have hj : j ≤ m.length := by simp at hi; omega
    have e : ([40] ++ m ++ [41]).take (j + 1) = [40] ++ m.take j := by
      simp [List.take_append, Nat.sub_eq_zero_of_le hj]
    rw [e, dep_append]
    have h1 := h.2 j
    have h2 : dep [40] = 1 := by decide
    omega
  refine ⟨⟨by simp, by simp, ?_, hp, hd, ?_⟩, hd, fun i => ?_⟩
  · rw [List.getElem?_append_right (by simp)]
    simp
  · simp only [List.count_append]
    have h1 : List.count (40 : UInt8) [40] = 1 := by decide
    have h2 : List.count (40 : UInt8) [41] = 0 := by decide
    omega
  · by_cases h0 : i = 0
    · subst h0
      rw [List.take_zero]
      decide
    · by_cases hi : i < ([40] ++ m ++ [41]).length
      · have := hp i (by omega) hi
        omega
      · rw [List.take_of_length_le (by omega), hd]
        exact Int.le_refl _

theorem bl_strOf (k : Int) : Free (bl (strOf k)) := by
  obtain ⟨l, e, _, h1, h2⟩ := strOf_cases k
  rw [e]
  exact ⟨h1, h2⟩

/-- A node over balanced children: a group, and balanced. -/
theorem group_node {a b : ByteArray} (k : Int) (ha : Bal (bl a)) (hb : Bal (bl b)) :
    Group (bl (nodeTxt a (strOf k) b)) ((bl a).count 40 + (bl b).count 40 + 1) ∧ Bal (bl (nodeTxt a (strOf k) b)) := by
  have e : bl (nodeTxt a (strOf k) b) = [40] ++ (bl a ++ [32] ++ bl (strOf k) ++ [32] ++ bl b) ++ [41] := by
    rw [bl_nodeTxt]
    simp [List.append_assoc]
  have hm : Bal (bl a ++ [32] ++ bl (strOf k) ++ [32] ++ bl b) := (((ha.append space.bal).append (bl_strOf k).bal).append space.bal).append hb
  have hc : (bl a ++ [32] ++ bl (strOf k) ++ [32] ++ bl b).count 40 = (bl a).count 40 + (bl b).count 40 := by
    have h1 := (bl_strOf k).dep.2
    have h2 := space.dep.2
    simp only [List.count_append]
    omega
  have := group_of_bal hm
  rw [e]
  rw [hc] at this
  exact this

/-- The text of node k is one group with k + 1 pairs. -/
theorem group_txt (right : Bool) (L0 L1 : ByteArray) (Lx : Nat → ByteArray) (Z : Nat → Int) (h0 : Free (bl L0)) (h1 : Free (bl L1)) (k : Nat) (hx : ∀ j, j ≤ k → Free (bl (Lx j))) :
    Group (bl (txt right L0 L1 Lx Z k)) (k + 1) ∧ Bal (bl (txt right L0 L1 Lx Z k)) := by
  induction k with
  | zero =>
    have := group_node (Z 0) h0.bal h1.bal
    rw [h0.dep.2, h1.dep.2] at this
    exact this
  | succ k ih =>
    have i1 := ih fun j hj => hx j (by omega)
    have i2 := hx (k + 1) (Nat.le_refl _)
    have i3 := i1.1.2.2.2.2.2
    cases right with
    | false =>
      have := group_node (Z (k + 1)) i1.2 i2.bal
      rw [i2.dep.2, i3] at this
      simpa [txt] using this
    | true =>
      have := group_node (Z (k + 1)) i2.bal i1.2
      rw [i2.dep.2, i3, Nat.zero_add] at this
      simpa [txt] using this

theorem group_left (n : Nat) (hn : 2 ≤ n) (S : Nat → ByteArray) (Z : Nat → Int) (hf : ∀ j, j < n → Free (bl (S j))) :
    Group (lefts n (fun j => bl (S j)) (fun j => bl (strOf (Z j))) (n - 1)) (n - 1) := by
  have h := (group_txt false (S 0) (S 1) (fun k => S (k + 1)) Z (hf 0 (by omega)) (hf 1 (by omega)) (n - 1 - 1) (fun j hj => hf (j + 1) (by omega))).1
  rw [txt_leftForm n hn S Z, show n - 1 - 1 + 1 = n - 1 from by omega] at h
  exact h

theorem group_right (n : Nat) (hn : 2 ≤ n) (S : Nat → ByteArray) (Z : Nat → Int) (hf : ∀ j, j < n → Free (bl (S j))) :
    Group (rightForm n (fun j => bl (S j)) (fun j => bl (strOf (Z j))) (n - 1)) (n - 1) := by
  have h := (group_txt true (S (n - 2)) (S (n - 1)) (fun k => S (n - 2 - k)) (fun k => Z (n - 2 - k)) (hf _ (by omega)) (hf _ (by omega)) (n - 1 - 1) (fun j hj => hf (n - 2 - j) (by omega))).1
  rw [txt_rightForm n hn S Z, show n - 1 - 1 + 1 = n - 1 from by omega] at h
  exact h

/-! ### The two shapes -/
theorem rights_head (S O : Nat → List UInt8) (k : Nat) : ∃ X, rights S O (k + 1) = 40 :: (S 0 ++ 32 :: X) := by
  induction k with
  | zero => exact ⟨O 0 ++ [32], by simp [rights]⟩
  | succ k ih =>
    obtain ⟨X, hX⟩ := ih
    refine ⟨X ++ [40] ++ S (k + 1) ++ [32] ++ O (k + 1) ++ [32], ?_⟩
    rw [rights, hX]
    simp [List.append_assoc]

theorem shapes_two (S O : Nat → List UInt8) : lefts 2 S O (2 - 1) = rightForm 2 S O (2 - 1) := by
  simp [lefts, tails, rightForm, rights]

theorem shapes_differ (n : Nat) (hn : 3 ≤ n) (S O : Nat → List UInt8) (h : Free (S 0)) : lefts n S O (n - 1) ≠ rightForm n S O (n - 1) := by
  intro e
  obtain ⟨m, rfl⟩ : ∃ m, n = m + 3 := ⟨n - 3, by omega⟩
  obtain ⟨X, hX⟩ := rights_head S O (m + 1)
  have e1 := congrArg (fun l => l[1]?) e
  have hl : (lefts (m + 3) S O (m + 3 - 1))[1]? = some 40 := by
    simp [lefts, List.replicate_succ]
  have hr : (rightForm (m + 3) S O (m + 3 - 1))[1]? = (S 0 ++ 32 :: (X ++ (S (m + 2) ++ List.replicate (m + 2) 41)))[0]? := by
    show (rights S O (m + 2) ++ S (m + 2) ++ List.replicate (m + 2) 41)[1]? = _
    rw [hX]
    simp [List.append_assoc]
  simp only [hl, hr] at e1
  cases hS : S 0 with
  | nil => rw [hS] at e1; simp at e1
  | cons c r =>
    rw [hS] at e1
    simp at e1
    exact h.1 (by rw [hS, e1]; simp)
end Go.Proofs.YoedawDoor
