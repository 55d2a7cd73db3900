import Derived.Test.YoedawDoorPlain
import Derived.Lib.AppendStr
import Derived.Deep.AppendLies
namespace Go.Proofs.YoedawDoor
open Go.ChangeShapes Go.WideShapes Go.ChangeAt Go.RowKit

theorem Edag.info5 : (Edag.prog.info? 5).map (fun i => (i.zero, i.size, i.bytes)) = some (some (.int .u8 0), 1, 1) := by kernel_rfl

/-- The bytes as cells. -/
def cellsOf (bs : List UInt8) : List Value := bs.map fun b => Value.int .u8 b.toNat

/-- The value v owns the bytes bs, in memory made behind w5; all that lay in w5 is as it was. -/
def Own (w5 wr : World) (v : Value) (bs : List UInt8) : Prop :=
  wr.ownsRow w5.heap.size 5 1 v bs.length (cellsOf bs) ∧ Below w5.heap.size w5 wr

theorem Own.start (w5 : World) : Own w5 w5 (.slice none 0 0) [] := ⟨World.ownsRow_nil _ _ _ _, Below.refl _ _⟩

theorem Own.grow {w5 wr w' : World} {o : Obj} {v v' : Value} {bs cs : List UInt8} (H : Own w5 wr v bs) (hown : w'.ownsRow w5.heap.size 5 1 v' (bs.length + cs.length) (cellsOf bs ++ cellsOf cs)) (hg : (wr.alloc o).grownBy w' v.ownBlock) : Own w5 w' v' (bs ++ cs) := by
  refine ⟨by rw [List.length_append, cellsOf, List.map_append]; exact hown, ?_⟩
  exact (H.2.alloc H.2.size _).grown hg (by have := H.2.size; simp; omega) (fun k hk => (H.1.lt k hk).1)

theorem Own.grow0 {w5 wr w' : World} {v v' : Value} {bs cs : List UInt8} (H : Own w5 wr v bs) (hown : w'.ownsRow w5.heap.size 5 1 v' (bs.length + cs.length) (cellsOf bs ++ cellsOf cs)) (hg : wr.grownBy w' v.ownBlock) : Own w5 w' v' (bs ++ cs) := by
  refine ⟨by rw [List.length_append, cellsOf, List.map_append]; exact hown, ?_⟩
  exact H.2.grown hg H.2.size (fun k hk => (H.1.lt k hk).1)

/-- 'want = append(want, c)', at the operation. -/
theorem append_byte {ops : Array Oper} {rest : List Oper} {o : Oper} {a : Act} {Q : Exit → Act → World → Prop} (w5 wr : World) (v : Value) (bs : List UInt8) (c : UInt8) (z : Int) (hgd : o.guard = none) (s x : Operand)
    (ho : o.op = .call { callee := .builtin .append, args := #[s, x], argTypes := #[31, 31] }) (hz : z = (c.toNat : Int)) (H : Own w5 wr v bs) (hs : a.eval s = v) (hx : a.eval x = .slice (some ⟨wr.heap.size, 0, none⟩) 1 1) (hb : bs.length + 1 ≤ 1099511627776)
    (h : ∀ v' w', Own w5 w' v' (bs ++ [c]) → wpList Edag.prog ops Q rest (a.put o.dst v') w') : wpList Edag.prog ops Q (o :: rest) a (wr.alloc (.cells #[.int .u8 z] 5)) := by
  obtain ⟨i0, hi, hz0, hz1, hz2⟩ := info_parts Edag.info5
  subst hz
  refine wpList_append_own _ hgd s x 31 ho w5.heap.size 5 i0 (.int .u8 0) 1 1 Edag.underlying31 hi hz0 hz1 hz2 rfl (by decide) v bs.length (cellsOf bs) hs (H.1.alloc _) _ 1 1 [.int .u8 c.toNat] hx rfl (one_new rfl) ?_ ?_ ?_ ?_ ?_
  · intro u hu; simp at hu; subst hu; rfl
  · unfold maxLen; omega
  · omega
  · have := H.2.size; simp; omega
  · intro v' w' h1 h2 _
    exact h v' w' (H.grow (cs := [c]) h1 h2)

/-- 'want = append(want, s...)', s a string, at the operation. -/
theorem append_str {ops : Array Oper} {rest : List Oper} {o : Oper} {a : Act} {Q : Exit → Act → World → Prop} (w5 wr : World) (v : Value) (bs : List UInt8) (t : ByteArray) (hgd : o.guard = none) (s x : Operand)
    (ho : o.op = .call { callee := .builtin .append, args := #[s, x], argTypes := #[31, 9] }) (H : Own w5 wr v bs) (hs : a.eval s = v) (hx : a.eval x = .string t) (hb : bs.length + t.size ≤ 1099511627776)
    (h : ∀ v' w', Own w5 w' v' (bs ++ bl t) → wpList Edag.prog ops Q rest (a.put o.dst v') w') : wpList Edag.prog ops Q (o :: rest) a wr := by
  obtain ⟨i0, hi, hz0, hz1, hz2⟩ := info_parts Edag.info5
  refine Lib.wpList_append_own_string _ hgd s x 31 9 ho w5.heap.size 5 i0 Edag.underlying31 Edag.underlying9 hi hz0 hz1 hz2 v bs.length (cellsOf bs) hs H.1 t hx ?_ ?_ ?_ ?_
  · unfold maxLen; omega
  · omega
  · exact H.2.size
  · intro v' w' h1 h2 _
    refine h v' w' (H.grow0 (cs := bl t) ?_ h2)
    rw [bl_length]
    exact h1

/-- 'string(want)', want not empty. -/
theorem Own.text {w5 wr : World} {v : Value} {bs : List UInt8} (H : Own w5 wr v bs) (hn : 0 < bs.length) :
    ∃ g cap, v = .slice (some ⟨g, 0, none⟩) bs.length cap ∧ (convert 31 9 (.slice (some ⟨g, 0, none⟩) bs.length cap)).run Edag.prog wr = .ok (.string ⟨bs.toArray⟩) wr := by
  obtain ⟨g, cap, rfl, _, _⟩ := H.1.form hn
  refine ⟨g, cap, rfl, run_convert_bytes_back wr 31 9 5 _ cap bs Edag.underlying31 Edag.underlying5 Edag.underlying9 fun j hj => ?_⟩
  refine H.1.cells rfl j _ ?_
  simp [cellsOf, List.getElem?_eq_getElem hj]
end Go.Proofs.YoedawDoor
