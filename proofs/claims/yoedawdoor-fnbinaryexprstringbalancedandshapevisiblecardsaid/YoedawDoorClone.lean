import Derived.Test.YoedawDoorBase
import Derived.Deep.OwnRows
namespace Go.Proofs.YoedawDoor
open Go.ChangeShapes Go.WideShapes Go.ChangeAt Go.RowKit

theorem Edag.info9 : (Edag.prog.info? 9).map (fun i => (i.zero, i.size, i.bytes)) = some (some (.string ByteArray.empty), 1, 16) := by kernel_rfl
theorem Edag.info3 : (Edag.prog.info? 3).map (fun i => (i.zero, i.size, i.bytes)) = some (some (.int .i64 0), 1, 8) := by kernel_rfl

/-- What a round of a clone does: cell k is filled. -/
theorem clone_step {w wr : World} {t len k : Nat} {F : Nat → Value} {z : Value} (hr : wr.rowIs w.heap.size t len (fun i => if i < k then F i else z))
    (hb : Below w.heap.size w wr) (hz : wr.heap.size = w.heap.size + 1) :
    (wr.setCell ⟨w.heap.size, k, none⟩ (F k)).rowIs w.heap.size t len (fun i => if i < k + 1 then F i else z) ∧
    Below w.heap.size w (wr.setCell ⟨w.heap.size, k, none⟩ (F k)) ∧ (wr.setCell ⟨w.heap.size, k, none⟩ (F k)).heap.size = w.heap.size + 1 := by
  refine ⟨(hr.set k (F k)).congr fun i hi => ?_, hb.setCell (Nat.le_refl _) _, by simp [World.setCell, hz]⟩
  by_cases e : i = k
  · subst e; simp
  · by_cases h : i < k
    · simp [e, h, Nat.lt_succ_of_lt h]
    · have : ¬ i < k + 1 := by omega
      simp [e, h, this]

set_option maxHeartbeats 400000 in
theorem cloneStrings_any (b off len cap : Nat) (S : Nat → ByteArray) (w : World) (hl : len ≤ 1048576) (hbw : b < w.heap.size)
    (hc : ∀ k, k < len → w.cell? ⟨b, off + k, none⟩ = some (.string (S k))) :
    Calls Edag.prog 6 #[.slice (some ⟨b, off, none⟩) len cap] w
      fun e w' => e = .returned (.slice (some ⟨w.heap.size, 0, none⟩) len len) ∧ (∀ k, k < len → w'.cell? ⟨w.heap.size, k, none⟩ = some (.string (S k))) ∧ Below w.heap.size w w' ∧ w'.heap.size = w.heap.size + 1 := by
  have hnil : ∀ (w : World) (a : Option Addr) (n c n' c' : Nat), (binOp .eql 22 (.slice a n c) (.slice none n' c')).run Edag.prog w = .ok (.bool a.isNone) w := fun w a n c n' c' => Lib.run_eql_slice_nil w _ _ a n c n' c' Edag.underlying22
  have hmk := run_make_row' (P := Edag.prog) 22 9 (.string ByteArray.empty) 16 Edag.underlying22 Edag.info9 rfl .i64 .i64 len (by omega) (by omega)
  have hrow := World.rowIs_made w (.string ByteArray.empty) len 9
  have hbel : Below w.heap.size w (w.alloc (.cells (madeCells #[.string ByteArray.empty] len) 9)) := (Below.refl _ _).alloc (Nat.le_refl _) _
  have hsz : (w.alloc (.cells (madeCells #[.string ByteArray.empty] len) 9)).heap.size = w.heap.size + 1 := by simp
  go_enter Edag.func6, Edag.ntmps6
  go_wp2
  go_loopw [4] (fun i wr => ∃ k : Nat, k ≤ len ∧ i = .int .i64 k ∧ wr.rowIs w.heap.size 9 len (fun i => if i < k then .string (S i) else .string ByteArray.empty) ∧ Below w.heap.size w wr ∧ wr.heap.size = w.heap.size + 1)
    (fun i _ => len - (intOf i).toNat)
  case atStart => exact ⟨0, Nat.zero_le _, rfl, by simpa using hrow, hbel, hsz⟩
  case round =>
    clear hrow hbel hsz hmk
    obtain ⟨k, hk, rfl, hr, hb, hz⟩ := hrel
    by_cases hlt : k < len
    · have hck : wr.cell? ⟨b, off + k, none⟩ = some (.string (S k)) := (hb.cell (by exact hbw)).trans (hc k hlt)
      have hcd := hr.cell hlt
      have hfz := hr.frozen k
      have R := clone_step (F := fun i => .string (S i)) (z := .string ByteArray.empty) hr hb hz
      have HR : Hid _ := R
      clear R hr hb hz hc
      go_wp2
      go_roundw
      case rel => exact ⟨k + 1, by omega, by go_num, HR.out.1, HR.out.2.1, HR.out.2.2⟩
      case measure => simp [intOf]; omega
    · have e : k = len := by omega
      subst e
      go_wp2
      go_ret
      refine ⟨rfl, fun j hj => ?_, hb, hz⟩
      have := hr.cell hj
      simpa [hj] using this
set_option maxHeartbeats 400000 in
theorem cloneInts_any (b off len cap : Nat) (Z : Nat → Int) (w : World) (hl : len ≤ 1048576) (hbw : b < w.heap.size)
    (hc : ∀ k, k < len → w.cell? ⟨b, off + k, none⟩ = some (.int .i64 (Z k))) :
    Calls Edag.prog 7 #[.slice (some ⟨b, off, none⟩) len cap] w
      fun e w' => e = .returned (.slice (some ⟨w.heap.size, 0, none⟩) len len) ∧ (∀ k, k < len → w'.cell? ⟨w.heap.size, k, none⟩ = some (.int .i64 (Z k))) ∧ Below w.heap.size w w' ∧ w'.heap.size = w.heap.size + 1 := by
  have hnil : ∀ (w : World) (a : Option Addr) (n c n' c' : Nat), (binOp .eql 23 (.slice a n c) (.slice none n' c')).run Edag.prog w = .ok (.bool a.isNone) w := fun w a n c n' c' => Lib.run_eql_slice_nil w _ _ a n c n' c' Edag.underlying23
  have hmk := run_make_row' (P := Edag.prog) 23 3 (.int .i64 0) 8 Edag.underlying23 Edag.info3 rfl .i64 .i64 len (by omega) (by omega)
  have hrow := World.rowIs_made w (.int .i64 0) len 3
  have hbel : Below w.heap.size w (w.alloc (.cells (madeCells #[.int .i64 0] len) 3)) := (Below.refl _ _).alloc (Nat.le_refl _) _
  have hsz : (w.alloc (.cells (madeCells #[.int .i64 0] len) 3)).heap.size = w.heap.size + 1 := by simp
  go_enter Edag.func7, Edag.ntmps7
  go_wp2
  go_loopw [4] (fun i wr => ∃ k : Nat, k ≤ len ∧ i = .int .i64 k ∧ wr.rowIs w.heap.size 3 len (fun i => if i < k then .int .i64 (Z i) else .int .i64 0) ∧ Below w.heap.size w wr ∧ wr.heap.size = w.heap.size + 1)
    (fun i _ => len - (intOf i).toNat)
  case atStart => exact ⟨0, Nat.zero_le _, rfl, by simpa using hrow, hbel, hsz⟩
  case round =>
    clear hrow hbel hsz hmk
    obtain ⟨k, hk, rfl, hr, hb, hz⟩ := hrel
    by_cases hlt : k < len
    · have hck : wr.cell? ⟨b, off + k, none⟩ = some (.int .i64 (Z k)) := (hb.cell (by exact hbw)).trans (hc k hlt)
      have hcd := hr.cell hlt
      have hfz := hr.frozen k
      have R := clone_step (F := fun i => .int .i64 (Z i)) (z := .int .i64 0) hr hb hz
      have HR : Hid _ := R
      clear R hr hb hz hc
      go_wp2
      go_roundw
      case rel => exact ⟨k + 1, by omega, by go_num, HR.out.1, HR.out.2.1, HR.out.2.2⟩
      case measure => simp [intOf]; omega
    · have e : k = len := by omega
      subst e
      go_wp2
      go_ret
      refine ⟨rfl, fun j hj => ?_, hb, hz⟩
      have := hr.cell hj
      simpa [hj] using this
end Go.Proofs.YoedawDoor
