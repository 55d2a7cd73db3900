import Derived.Test.YoedawDoorBuild
namespace Go.Proofs.YoedawDoor
open Go.ChangeShapes Go.WideShapes Go.ChangeAt Go.RowKit

set_option maxRecDepth 100000 in
set_option maxHeartbeats 400000 in
theorem build_right (nb no nc ob oo ol oc n : Nat) (S : Nat → ByteArray) (Z : Nat → Int) (w : World) (hn2 : 2 ≤ n) (hn : n ≤ 4096) (hol : n - 1 ≤ ol)
    (G : Given w w.heap.size nb no ob oo n ol S Z) :
    Calls Edag.prog 8 #[.slice (some ⟨nb, no, none⟩) n nc, .slice none 0 0, .slice (some ⟨ob, oo, none⟩) ol oc, .bool true] w
      fun e w' => e = .returned (.slice (some ⟨w.heap.size, 0, none⟩) (n - 1) (n - 1)) ∧ Below w.heap.size w w' ∧
        ∀ k, k < n - 1 → ∃ b, w'.cell? ⟨w.heap.size, k, none⟩ = some (.pointer (some ⟨b, 0, none⟩)) ∧ ChB w' w.heap.size true (S (n - 2), 0) (S (n - 1), 0) (fun k => (S (n - 2 - k), 0)) (fun k => tokOf (Z (n - 2 - k))) k b := by
  obtain ⟨i0, hi, hz0, hz1, hz2⟩ := info_parts Edag.info29
  go_enter Edag.func8, Edag.ntmps8
  go_wp2_with (at_make; refine wpList_make_own _ rfl _ _ 27 rfl w.heap.size 29 i0 (.pointer none) 1 Edag.underlying27 hi hz0 hz1 .i64 .i64 _ (n - 1) rfl rfl (by omega) (by rw [hz2]; omega) (by unfold maxLen; omega) (Nat.le_refl _) ?_; intro w1 hown1 hgrow1; have hb1 : Below w.heap.size w w1 := (Below.refl w.heap.size w).grown hgrow1 (Nat.le_refl _) (by simp); have G1 := G.below hb1; have hop0 : w1.cell? ⟨ob, oo + (n - 2), none⟩ = some (.int .i64 (Z (n - 2))) := G1.ops _ (by omega))
  refine (op_any _ _).mono ?_
  rintro e w1 ⟨rfl, rfl⟩
  go_wp2_with fail
  refine (ident_given nc _ (n - 2) _ G1 (by omega) (by omega)).mono ?_
  rintro e w' ⟨rfl, rfl⟩
  go_wp2_with fail
  have hN1 : w.heap.size < w1.heap.size := (hown1.lt _ rfl).2
  refine (ident_given nc _ (n - 1) _ (G1.below ((Below.refl _ _).alloc (by omega) _)) (by omega) (by omega)).mono ?_
  rintro e w' ⟨rfl, rfl⟩
  go_wp2_with (at_builtin; refine wpList_append_fits _ rfl (.tmp 105) (.tmp 107) 27 rfl w.heap.size 29 i0 1 Edag.underlying27 hi hz1 w.heap.size 0 (n - 1) [] rfl ?_ _ 1 1 [.pointer (some ⟨w1.heap.size + 2, 0, none⟩)] rfl rfl ?_ ?_ ?_ ?_; rotate_right; intro w4 hown4 hgrow4)
  case refine_1 => exact (((hown1.alloc _).alloc _).alloc _).alloc _
  case refine_2 => exact one_new (by simp)
  case refine_3 => intro u hu; simp at hu; subst hu; rfl
  case refine_4 => omega
  have hk4 := (Keeps.alloc w.heap.size _ _).trans (Keeps.grown hgrow4)
  have B4 := built_first (right := true) (Lx := fun k => (S (n - 2 - k), 0)) (T := fun k => tokOf (Z (n - 2 - k))) hN1 hk4
  have hb4 : Below w.heap.size w w4 := ((((hb1.alloc (by omega) _).alloc (by simp; omega) _).alloc (by simp; omega) _).alloc (by simp; omega) _).grown hgrow4 (by simp; omega) (by simp)
  have hN4 : w.heap.size < w4.heap.size := (hown4.lt _ rfl).2
  simp only [Nat.zero_add, List.nil_append] at hown4
  clear hk4 hgrow4 hN1 hown1 hgrow1 hop0 G1 hb1
  go_loopw [10, 19, 20] (fun v c i wr => ∃ (m cb : Nat) (xs : List Value), 1 ≤ m ∧ m ≤ n - 1 ∧ i = .int .i64 ((n : Int) - 2 - m) ∧ v = .slice (some ⟨w.heap.size, 0, none⟩) m (n - 1) ∧ c = .pointer (some ⟨cb, 0, none⟩) ∧
      wr.ownsRow w.heap.size 29 1 (.slice (some ⟨w.heap.size, 0, none⟩) m (n - 1)) m xs ∧ Below w.heap.size w wr ∧ w.heap.size < wr.heap.size ∧
      Built wr w.heap.size true (S (n - 2), 0) (S (n - 1), 0) (fun k => (S (n - 2 - k), 0)) (fun k => tokOf (Z (n - 2 - k))) m xs cb)
    (fun _ _ i _ => (intOf i + 1).toNat)
  case atStart => exact ⟨1, _, _, Nat.le_refl _, by omega, by go_num, rfl, rfl, hown4, hb4, hN4, B4⟩
  case round =>
    clear B4 hb4 hN4 hown4
    obtain ⟨m, cb, xs, hm1, hm, rfl, rfl, rfl, hown, hb, hN, hB⟩ := hrel
    by_cases hlt : m + 1 < n
    · have Gr := G.below hb
      have hop : wr.cell? ⟨ob, oo + (n - 2 - m), none⟩ = some (.int .i64 (Z (n - 2 - m))) := Gr.ops _ (by omega)
      go_wp2_with fail
      refine (op_any _ _).mono ?_
      rintro e wr ⟨rfl, rfl⟩
      go_wp2_with fail
      refine (ident_given nc _ (n - 2 - m) _ Gr (by omega) (by omega)).mono ?_
      rintro e w' ⟨rfl, rfl⟩
      go_wp2_with (at_builtin; refine wpList_append_fits _ rfl (.tmp 133) (.tmp 135) 27 rfl w.heap.size 29 i0 1 Edag.underlying27 hi hz1 w.heap.size m (n - 1) xs rfl ?_ _ 1 1 [.pointer (some ⟨wr.heap.size + 1, 0, none⟩)] rfl rfl ?_ ?_ ?_ ?_; rotate_right; intro w4 hown4 hgrow4; clear hop Gr hown)
      case refine_1 => exact ((hown.alloc _).alloc _).alloc _
      case refine_2 => exact one_new (by simp)
      case refine_3 => intro u hu; simp at hu; subst hu; rfl
      case refine_4 => omega
      have hk4 := (Keeps.alloc w.heap.size _ _).trans (Keeps.grown hgrow4)
      have hB4 := built_step hN hB hk4
      have hb4 : Below w.heap.size w w4 := (((hb.alloc (by omega) _).alloc (by simp; omega) _).alloc (by simp; omega) _).grown hgrow4 (by simp; omega) (by simp)
      have hN4 : w.heap.size < w4.heap.size := (hown4.lt _ rfl).2
      go_roundw
      case rel => exact ⟨m + 1, _, _, by omega, by omega, by go_num, rfl, rfl, hown4, hb4, hN4, hB4⟩
      case measure => simp [intOf]; omega
    · have e : m = n - 1 := by omega
      subst e
      go_wp2
      go_ret
      refine ⟨rfl, hb, fun k hk => ?_⟩
      obtain ⟨b, hx, hch⟩ := hB.2.1 k hk
      have hc := hown.cells rfl k _ hx
      rw [add_plain] at hc
      exact ⟨b, by simpa using hc, hch⟩
end Go.Proofs.YoedawDoor
