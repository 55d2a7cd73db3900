import Derived.Test.YoedawDoorOp
import Derived.Deep.OwnRows
namespace Go.Proofs.YoedawDoor
open Go.ChangeShapes Go.WideShapes Go.ChangeAt Go.RowKit

theorem Keeps.trans {g : Nat} {a b c : World} (h : Keeps g a b) (k : Keeps g b c) : Keeps g a c := fun x o v hx hv => k x o v hx (h x o v hx hv)
theorem Keeps.grown {g : Nat} {a b : World} (h : a.grownBy b (some g)) : Keeps g a b := fun x o v hx hv => h.cell hv (by simp; omega)
theorem Keeps.alloc (g : Nat) (w : World) (o : Obj) : Keeps g w (w.alloc o) := fun _ _ _ _ hv => (World.cell?_alloc_lt _ _ _ (World.block_lt_of_cell? _ _ hv)).trans hv

/-- m nodes have been built; xs: the pointers to them, in the order built; cb: the last one's block. -/
def Built (w : World) (g : Nat) (right : Bool) (L0 L1 : ByteArray × Int) (Lx : Nat → ByteArray × Int) (T : Nat → Int) (m : Nat) (xs : List Value) (cb : Nat) : Prop :=
  xs.length = m ∧ (∀ k, k < m → ∃ b, xs[k]? = some (.pointer (some ⟨b, 0, none⟩)) ∧ ChB w g right L0 L1 Lx T k b) ∧ ∃ m', m = m' + 1 ∧ ChB w g right L0 L1 Lx T m' cb

theorem built_first {w1 w4 : World} {g : Nat} {right : Bool} {s0 s1 : ByteArray} {p0 p1 : Int} {Lx : Nat → ByteArray × Int} {T : Nat → Int} (hg : g < w1.heap.size)
    (hk : Keeps g (((w1.alloc (.cells #[.string s0, .int .i64 p0] 45)).alloc (.cells #[.string s1, .int .i64 p1] 45)).alloc
      (.cells #[.iface 37 (.pointer (some ⟨w1.heap.size, 0, none⟩)), .iface 37 (.pointer (some ⟨w1.heap.size + 1, 0, none⟩)), .int .i64 (T 0), .int .i64 0] 43)) w4) :
    Built w4 g right (s0, p0) (s1, p1) Lx T 1 [.pointer (some ⟨w1.heap.size + 2, 0, none⟩)] (w1.heap.size + 2) := by
  have h : ChB w4 g right (s0, p0) (s1, p1) Lx T 0 (w1.heap.size + 2) := by
    refine ⟨w1.heap.size, w1.heap.size + 1, by omega, hk _ _ _ (by omega) ?_, hk _ _ _ (by omega) ?_, hk _ _ _ (by omega) ?_, ⟨by omega, hk _ _ _ (by omega) ?_, hk _ _ _ (by omega) ?_⟩, ⟨by omega, hk _ _ _ (by omega) ?_, hk _ _ _ (by omega) ?_⟩⟩
    · rw [World.cell?_alloc_at _ _ _ _ (by simp)]; rfl
    · rw [World.cell?_alloc_at _ _ _ _ (by simp)]; rfl
    · rw [World.cell?_alloc_at _ _ _ _ (by simp)]; rfl
    · rw [World.cell?_alloc_past _ _ _ (by simp <;> omega), World.cell?_alloc_past _ _ _ (by simp <;> omega), World.cell?_alloc_at _ _ _ _ (by simp)]; rfl
    · rw [World.cell?_alloc_past _ _ _ (by simp <;> omega), World.cell?_alloc_past _ _ _ (by simp <;> omega), World.cell?_alloc_at _ _ _ _ (by simp)]; rfl
    · rw [World.cell?_alloc_past _ _ _ (by simp <;> omega), World.cell?_alloc_at _ _ _ _ (by simp)]; rfl
    · rw [World.cell?_alloc_past _ _ _ (by simp <;> omega), World.cell?_alloc_at _ _ _ _ (by simp)]; rfl
  refine ⟨rfl, fun k hk => ?_, 0, rfl, h⟩
  have : k = 0 := by omega
  subst this
  exact ⟨_, rfl, h⟩

/-- The node's two children, as they lie in memory. -/
def kidsOf (right : Bool) (leaf cb : Nat) (t : Int) : Array Value :=
  if right then #[.iface 37 (.pointer (some ⟨leaf, 0, none⟩)), .iface 29 (.pointer (some ⟨cb, 0, none⟩)), .int .i64 t, .int .i64 0]
  else #[.iface 29 (.pointer (some ⟨cb, 0, none⟩)), .iface 37 (.pointer (some ⟨leaf, 0, none⟩)), .int .i64 t, .int .i64 0]

theorem built_step {wr w4 : World} {g : Nat} {right : Bool} {L0 L1 : ByteArray × Int} {Lx : Nat → ByteArray × Int} {T : Nat → Int} {m cb : Nat} {xs : List Value} (hg : g < wr.heap.size)
    (hb : Built wr g right L0 L1 Lx T m xs cb)
    (hk : Keeps g ((wr.alloc (.cells #[.string (Lx m).1, .int .i64 (Lx m).2] 45)).alloc (.cells (kidsOf right wr.heap.size cb (T m)) 43)) w4) :
    Built w4 g right L0 L1 Lx T (m + 1) (xs ++ [.pointer (some ⟨wr.heap.size + 1, 0, none⟩)]) (wr.heap.size + 1) := by
  obtain ⟨hl, hall, m', rfl, hc⟩ := hb
  have kp : Keeps g wr w4 := ((Keeps.alloc g wr _).trans (Keeps.alloc g _ _)).trans hk
  have h : ChB w4 g right L0 L1 Lx T (m' + 1) (wr.heap.size + 1) := by
    refine ⟨wr.heap.size, cb, by omega, hk _ _ _ (by omega) ?_, hk _ _ _ (by omega) ?_, hk _ _ _ (by omega) ?_, ⟨by omega, hk _ _ _ (by omega) ?_, hk _ _ _ (by omega) ?_⟩, hc.keep kp⟩
    · rw [World.cell?_alloc_at _ _ _ _ (by simp)]; cases right <;> rfl
    · rw [World.cell?_alloc_at _ _ _ _ (by simp)]; cases right <;> rfl
    · rw [World.cell?_alloc_at _ _ _ _ (by simp)]; cases right <;> rfl
    · rw [World.cell?_alloc_past _ _ _ (by simp <;> omega), World.cell?_alloc_at _ _ _ _ (by simp)]; rfl
    · rw [World.cell?_alloc_past _ _ _ (by simp <;> omega), World.cell?_alloc_at _ _ _ _ (by simp)]; rfl
  refine ⟨by simp [hl], fun k hk' => ?_, m' + 1, rfl, h⟩
  by_cases e : k = m' + 1
  · subst e
    exact ⟨_, by rw [List.getElem?_append_right (by omega)]; simp [hl], h⟩
  · obtain ⟨b, hx, hb⟩ := hall k (by omega)
    exact ⟨b, by rw [List.getElem?_append_left (by omega)]; exact hx, hb.keep kp⟩
end Go.Proofs.YoedawDoor
