import Derived.Test.YoedawBase
namespace Go.Proofs.Yoedaw
open Go.ChangeShapes Go.WideShapes Go.ChangeAt Go.RowKit

/-- A leaf whose name and position are small. -/
def Small (x : ByteArray × Int) : Prop := 0 ≤ x.2 ∧ x.2 ≤ 1073741824 ∧ (x.1.size : Int) ≤ 1048576

set_option maxHeartbeats 400000 in
theorem end_leaf (b i : Nat) (s : ByteArray) (p : Int) (w : World) (h0 : w.cell? ⟨b, 1, none⟩ = some (.iface 36 (.pointer (some ⟨i, 0, none⟩))))
    (hi0 : w.cell? ⟨i, 0, none⟩ = some (.string s)) (hi1 : w.cell? ⟨i, 1, none⟩ = some (.int .i64 p)) (hp0 : 0 ≤ p) (hp : p ≤ 1073741824) (hs : (s.size : Int) ≤ 1048576) :
    Calls Edag.prog 10 #[.pointer (some ⟨b, 0, none⟩)] w fun e w' => e = .returned (.int .i64 (p + s.size)) ∧ ∃ n, w' = w.drewN n := by
  have hm1 := m36end
  have hm2 := m30end
  go_enter Edag.func10, Edag.ntmps10
  go_wp2_with (go_at_call 16; refine (identEnd_any _ _ _ _ hi0 hi1 hp0 hp hs).mono ?_; rintro e w' ⟨rfl, n, rfl⟩)
  go_ret
  exact ⟨rfl, _, rfl⟩

set_option maxHeartbeats 400000 in
theorem end_any (g : Nat) (right : Bool) (L0 L1 : ByteArray × Int) (Lx : Nat → ByteArray × Int) (T : Nat → Int) (s1 : Small L1) (k : Nat) (sx : ∀ j, j ≤ k → Small (Lx j)) :
    ∀ (b : Nat) (w : World), ChB w g right L0 L1 Lx T k b →
      Calls Edag.prog 10 #[.pointer (some ⟨b, 0, none⟩)] w fun e w' => e = .returned (.int .i64 (endOf right L1 Lx k)) ∧ ∃ n, w' = w.drewN n := by
  have hm1 := m36end
  have hm2 := m30end
  induction k with
  | zero =>
    rintro b w ⟨i0, i1, hb, h0, h1, h2, _, ⟨_, hi0, hi1⟩⟩
    exact end_leaf b i1 _ _ w h1 hi0 hi1 s1.1 s1.2.1 s1.2.2
  | succ k ih =>
    rintro b w ⟨i, b', hb, h0, h1, h2, ⟨_, hi0, hi1⟩, hc⟩
    cases right with
    | false =>
      have sk := sx (k + 1) (Nat.le_refl _)
      exact end_leaf b i _ _ w (by simpa using h1) hi0 hi1 sk.1 sk.2.1 sk.2.2
    | true =>
      have h := ih (fun j hj => sx j (by omega)) b' w hc
      have hp : endOf true L1 Lx k = L1.2 + L1.1.size := by cases k <;> rfl
      rw [hp] at h
      show Calls Edag.prog 10 _ w fun e w' => e = .returned (.int .i64 (L1.2 + L1.1.size)) ∧ ∃ n, w' = w.drewN n
      generalize L1.2 + L1.1.size = p at *
      have HH : Hid (Calls Edag.prog 10 #[.pointer (some ⟨b', 0, none⟩)] w fun e w' => e = .returned (.int .i64 p) ∧ ∃ n, w' = w.drewN n) := h
      clear ih hc hp h sx s1
      simp only [if_true] at h1
      go_enter Edag.func10, Edag.ntmps10
      go_wp2_with (go_at_call 10; refine HH.out.mono ?_; rintro e w' ⟨rfl, n, rfl⟩)
      go_ret
      exact ⟨rfl, _, rfl⟩

/-! ### zzIdent -/
set_option maxHeartbeats 400000 in
theorem ident_pos (nb no nl nc : Nat) (pb po pl pc : Nat) (i : Nat) (s : ByteArray) (p : Int) (w : World) (hi : i < nl) (hi2 : i < pl)
    (hn : w.cell? ⟨nb, no + i, none⟩ = some (.string s)) (hp : w.cell? ⟨pb, po + i, none⟩ = some (.int .i64 p)) :
    Calls Edag.prog 14 #[.slice (some ⟨nb, no, none⟩) nl nc, .slice (some ⟨pb, po, none⟩) pl pc, .int .i64 i] w
      fun e w' => e = .returned (.pointer (some ⟨w.heap.size, 0, none⟩)) ∧ w' = w.alloc (.cells #[.string s, .int .i64 p] 43) := by
  go_enter Edag.func14, Edag.ntmps14
  go_wp2
  go_ret
  exact ⟨rfl, rfl⟩

/-! ### zzOp -/
def tokTab : List Int := [11, 12, 13, 14, 15, 16, 17, 18, 19, 20, 21, 33, 34, 37, 42, 38, 39, 43]
def strTab : List (List UInt8) := [[43], [45], [42], [47], [37], [38], [124], [94], [60, 60], [62, 62], [38, 94], [38, 38], [124, 124], [61, 61], [33, 61], [60], [62], [60, 61]]
def tokOf (k : Int) : Int := tokTab.getD (k % 19).toNat 44
def strOf (k : Int) : ByteArray := ⟨(strTab.getD (k % 19).toNat [62, 61]).toArray⟩

theorem tmod_facts (k : Int) : (0 ≤ k.tmod 19 → k % 19 = k.tmod 19) ∧ (k.tmod 19 < 0 → k % 19 = k.tmod 19 + 19) ∧ -19 < k.tmod 19 ∧ k.tmod 19 < 19 := by
  rw [Int.tmod_eq_emod]
  split <;> simp <;> omega

set_option maxHeartbeats 3200000 in
theorem op_any (k : Int) (w : World) :
    Calls Edag.prog 13 #[.int .i64 k] w fun e w' => e = .returned (.tuple #[.int .i64 (tokOf k), .string (strOf k)]) ∧ w' = w := by
  obtain ⟨h1, h2, h3, h4⟩ := tmod_facts k
  have H1 : Hid (0 ≤ k.tmod 19 → k % 19 = k.tmod 19) := h1
  have H2 : Hid (k.tmod 19 < 0 → k % 19 = k.tmod 19 + 19) := h2
  clear h1 h2
  go_enter Edag.func13, Edag.ntmps13
  go_wp2
  all_goals
    go_ret2
    refine ⟨?_, rfl⟩
    have h1 := H1.out
    have h2 := H2.out
    clear H1 H2
    simp only [beq_iff_eq, beq_eq_false_iff_ne, ne_eq] at *
    first
    | ((have h19 : k % 19 = 0 := by omega); simp [tokOf, strOf, tokTab, strTab, h19])
    | ((have h19 : k % 19 = 1 := by omega); simp [tokOf, strOf, tokTab, strTab, h19])
    | ((have h19 : k % 19 = 2 := by omega); simp [tokOf, strOf, tokTab, strTab, h19])
    | ((have h19 : k % 19 = 3 := by omega); simp [tokOf, strOf, tokTab, strTab, h19])
    | ((have h19 : k % 19 = 4 := by omega); simp [tokOf, strOf, tokTab, strTab, h19])
    | ((have h19 : k % 19 = 5 := by omega); simp [tokOf, strOf, tokTab, strTab, h19])
    | ((have h19 : k % 19 = 6 := by omega); simp [tokOf, strOf, tokTab, strTab, h19])
    | ((have h19 : k % 19 = 7 := by omega); simp [tokOf, strOf, tokTab, strTab, h19])
    | ((have h19 : k % 19 = 8 := by omega); simp [tokOf, strOf, tokTab, strTab, h19])
    | ((have h19 : k % 19 = 9 := by omega); simp [tokOf, strOf, tokTab, strTab, h19])
    | ((have h19 : k % 19 = 10 := by omega); simp [tokOf, strOf, tokTab, strTab, h19])
    | ((have h19 : k % 19 = 11 := by omega); simp [tokOf, strOf, tokTab, strTab, h19])
    | ((have h19 : k % 19 = 12 := by omega); simp [tokOf, strOf, tokTab, strTab, h19])
    | ((have h19 : k % 19 = 13 := by omega); simp [tokOf, strOf, tokTab, strTab, h19])
    | ((have h19 : k % 19 = 14 := by omega); simp [tokOf, strOf, tokTab, strTab, h19])
    | ((have h19 : k % 19 = 15 := by omega); simp [tokOf, strOf, tokTab, strTab, h19])
    | ((have h19 : k % 19 = 16 := by omega); simp [tokOf, strOf, tokTab, strTab, h19])
    | ((have h19 : k % 19 = 17 := by omega); simp [tokOf, strOf, tokTab, strTab, h19])
    | ((have h19 : k % 19 = 18 := by omega); simp [tokOf, strOf, tokTab, strTab, h19])
end Go.Proofs.Yoedaw
