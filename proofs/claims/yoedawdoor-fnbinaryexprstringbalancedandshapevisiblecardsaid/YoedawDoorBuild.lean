import Derived.Test.YoedawDoorNodes
namespace Go.Proofs.YoedawDoor
open Go.ChangeShapes Go.WideShapes Go.ChangeAt Go.RowKit

theorem Edag.info29 : (Edag.prog.info? 29).map (fun i => (i.zero, i.size, i.bytes)) = some (some (.pointer none), 1, 8) := by kernel_rfl

/-- What 'zzBuild' is handed: two rows, below block N. -/
structure Given (w : World) (N : Nat) (nb no ob oo n ol : Nat) (S : Nat → ByteArray) (Z : Nat → Int) : Prop where
  nbN : nb < N
  obN : ob < N
  names : ∀ k, k < n → w.cell? ⟨nb, no + k, none⟩ = some (.string (S k))
  ops : ∀ k, k < ol → w.cell? ⟨ob, oo + k, none⟩ = some (.int .i64 (Z k))

theorem Given.below {w w' : World} {N nb no ob oo n ol : Nat} {S : Nat → ByteArray} {Z : Nat → Int} (G : Given w N nb no ob oo n ol S Z) (h : Below N w w') :
    Given w' N nb no ob oo n ol S Z :=
  ⟨G.nbN, G.obN, fun k hk => (h.cell (p := ⟨nb, no + k, none⟩) G.nbN).trans (G.names k hk), fun k hk => (h.cell (p := ⟨ob, oo + k, none⟩) G.obN).trans (G.ops k hk)⟩

set_option maxHeartbeats 400000 in
/-- 'zzIdent' where no position is handed. -/
theorem ident_nil (nb no nl nc i : Nat) (s : ByteArray) (w : World) (hi : i < nl) (hn : w.cell? ⟨nb, no + i, none⟩ = some (.string s)) :
    Calls Edag.prog 13 #[.slice (some ⟨nb, no, none⟩) nl nc, .slice none 0 0, .int .i64 i] w
      fun e w' => e = .returned (.pointer (some ⟨w.heap.size, 0, none⟩)) ∧ w' = w.alloc (.cells #[.string s, .int .i64 0] 45) := by
  go_enter Edag.func13, Edag.ntmps13
  go_wp2
  go_ret
  exact ⟨rfl, rfl⟩

theorem one_new {W : World} {v : Value} {t B : Nat} (hB : B = W.heap.size) : ∀ (j : Nat) (u : Value), [v][j]? = some u → (W.alloc (.cells #[v] t)).cell? ((⟨B, 0, none⟩ : Addr).add j) = some u := by
  subst hB
  exact cell_one_new _ _ _

theorem ident_given {N nb no ob oo n ol : Nat} {S : Nat → ByteArray} {Z : Nat → Int} (nc : Nat) (i : Int) (j : Nat) (w : World) (G : Given w N nb no ob oo n ol S Z) (hij : i = (j : Int)) (hn : j < n) :
    Calls Edag.prog 13 #[.slice (some ⟨nb, no, none⟩) n nc, .slice none 0 0, .int .i64 i] w
      fun e w' => e = .returned (.pointer (some ⟨w.heap.size, 0, none⟩)) ∧ w' = w.alloc (.cells #[.string (S j), .int .i64 0] 45) := by
  subst hij
  exact ident_nil nb no n nc j (S j) w hn (G.names j hn)

set_option maxRecDepth 100000 in
set_option maxHeartbeats 400000 in
theorem build_left (nb no nc ob oo ol oc n : Nat) (S : Nat → ByteArray) (Z : Nat → Int) (w : World) (hn2 : 2 ≤ n) (hn : n ≤ 4096) (hol : n - 1 ≤ ol)
    (G : Given w w.heap.size nb no ob oo n ol S Z) :
    Calls Edag.prog 8 #[.slice (some ⟨nb, no, none⟩) n nc, .slice none 0 0, .slice (some ⟨ob, oo, none⟩) ol oc, .bool false] w
      fun e w' => e = .returned (.slice (some ⟨w.heap.size, 0, none⟩) (n - 1) (n - 1)) ∧ Below w.heap.size w w' ∧
        ∀ k, k < n - 1 → ∃ b, w'.cell? ⟨w.heap.size, k, none⟩ = some (.pointer (some ⟨b, 0, none⟩)) ∧ ChB w' w.heap.size false (S 0, 0) (S 1, 0) (fun k => (S (k + 1), 0)) (fun k => tokOf (Z k)) k b := by
  obtain ⟨i0, hi, hz0, hz1, hz2⟩ := info_parts Edag.info29
  go_enter Edag.func8, Edag.ntmps8
  go_wp2_with (at_make; refine wpList_make_own _ rfl _ _ 27 rfl w.heap.size 29 i0 (.pointer none) 1 Edag.underlying27 hi hz0 hz1 .i64 .i64 _ (n - 1) rfl rfl (by omega) (by rw [hz2]; omega) (by unfold maxLen; omega) (Nat.le_refl _) ?_; intro w1 hown1 hgrow1; have hb1 : Below w.heap.size w w1 := (Below.refl w.heap.size w).grown hgrow1 (Nat.le_refl _) (by simp); have G1 := G.below hb1; have hop0 : w1.cell? ⟨ob, oo, none⟩ = some (.int .i64 (Z 0)) := G1.ops 0 (by omega))
  refine (op_any _ _).mono ?_
  rintro e w1 ⟨rfl, rfl⟩
  go_wp2_with fail
  refine (ident_given nc 0 0 _ G1 rfl (by omega)).mono ?_
  rintro e w' ⟨rfl, rfl⟩
  go_wp2_with fail
  have hN1 : w.heap.size < w1.heap.size := (hown1.lt _ rfl).2
  refine (ident_given nc 1 1 _ (G1.below ((Below.refl _ _).alloc (by omega) _)) rfl (by omega)).mono ?_
  rintro e w' ⟨rfl, rfl⟩
  go_wp2_with (at_builtin; refine wpList_append_fits _ rfl (.tmp 48) (.tmp 50) 27 rfl w.heap.size 29 i0 1 Edag.underlying27 hi hz1 w.heap.size 0 (n - 1) [] rfl ?_ _ 1 1 [.pointer (some ⟨w1.heap.size + 2, 0, none⟩)] rfl rfl ?_ ?_ ?_ ?_; rotate_right; intro w4 hown4 hgrow4)
  case refine_1 => exact (((hown1.alloc _).alloc _).alloc _).alloc _
  case refine_2 => exact one_new (by simp)
  case refine_3 => intro u hu; simp at hu; subst hu; rfl
  case refine_4 => omega
  have hk4 := (Keeps.alloc w.heap.size _ _).trans (Keeps.grown hgrow4)
  have B4 := built_first (right := false) (Lx := fun k => (S (k + 1), 0)) (T := fun k => tokOf (Z k)) hN1 hk4
  have hb4 : Below w.heap.size w w4 := ((((hb1.alloc (by omega) _).alloc (by simp; omega) _).alloc (by simp; omega) _).alloc (by simp; omega) _).grown hgrow4 (by simp; omega) (by simp)
  have hN4 : w.heap.size < w4.heap.size := (hown4.lt _ rfl).2
  simp only [Nat.zero_add, List.nil_append] at hown4
  clear hk4 hgrow4 hN1 hown1 hgrow1 hop0 G1 hb1
  go_loopw [10, 13, 14] (fun v c i wr => ∃ (m cb : Nat) (xs : List Value), 1 ≤ m ∧ m ≤ n - 1 ∧ i = .int .i64 (m + 1) ∧ v = .slice (some ⟨w.heap.size, 0, none⟩) m (n - 1) ∧ c = .pointer (some ⟨cb, 0, none⟩) ∧
      wr.ownsRow w.heap.size 29 1 (.slice (some ⟨w.heap.size, 0, none⟩) m (n - 1)) m xs ∧ Below w.heap.size w wr ∧ w.heap.size < wr.heap.size ∧
      Built wr w.heap.size false (S 0, 0) (S 1, 0) (fun k => (S (k + 1), 0)) (fun k => tokOf (Z k)) m xs cb)
    (fun _ _ i _ => n - (intOf i).toNat)
  case atStart => exact ⟨1, _, _, Nat.le_refl _, by omega, rfl, rfl, rfl, hown4, hb4, hN4, B4⟩
  case round =>
    clear B4 hb4 hN4 hown4
    obtain ⟨m, cb, xs, hm1, hm, rfl, rfl, rfl, hown, hb, hN, hB⟩ := hrel
    by_cases hlt : m + 1 < n
    · have Gr := G.below hb
      have hop : wr.cell? ⟨ob, oo + m, none⟩ = some (.int .i64 (Z m)) := Gr.ops m (by omega)
      go_wp2_with fail
      refine (op_any _ _).mono ?_
      rintro e wr ⟨rfl, rfl⟩
      go_wp2_with fail
      refine (ident_given nc _ (m + 1) _ Gr (by omega) (by omega)).mono ?_
      rintro e w' ⟨rfl, rfl⟩
      go_wp2_with (at_builtin; refine wpList_append_fits _ rfl (.tmp 76) (.tmp 78) 27 rfl w.heap.size 29 i0 1 Edag.underlying27 hi hz1 w.heap.size m (n - 1) xs rfl ?_ _ 1 1 [.pointer (some ⟨wr.heap.size + 1, 0, none⟩)] rfl rfl ?_ ?_ ?_ ?_; rotate_right; intro w4 hown4 hgrow4; clear hop Gr hown)
      case refine_1 => exact ((hown.alloc _).alloc _).alloc _
      case refine_2 => exact one_new (by simp)
      case refine_3 => intro u hu; simp at hu; subst hu; rfl
      case refine_4 => omega
      have hk4 := (Keeps.alloc w.heap.size _ _).trans (Keeps.grown hgrow4)
      have hB4 := built_step hN hB hk4
      have hb4 : Below w.heap.size w w4 := (((hb.alloc (by omega) _).alloc (by simp; omega) _).alloc (by simp; omega) _).grown hgrow4 (by simp; omega) (by simp)
      have hN4 : w.heap.size < w4.heap.size := (hown4.lt _ rfl).2
      go_roundw
      case rel => exact ⟨m + 1, _, _, by omega, by omega, by go_num, rfl, rfl, hown4, hb4, hN4, hB4⟩
      case measure => simp [intOf]; omega
    · have e : m = n - 1 := by omega
      subst e
      go_wp2
      go_ret
      refine ⟨rfl, hb, fun k hk => ?_⟩
      obtain ⟨b, hx, hch⟩ := hB.2.1 k hk
      have hc := hown.cells rfl k _ hx
      rw [add_plain] at hc
      exact ⟨b, by simpa using hc, hch⟩
end Go.Proofs.YoedawDoor
