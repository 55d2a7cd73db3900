import Derived.Test.YoedawDoorBytes
import Derived.SliceStrings
namespace Go.Proofs.YoedawDoor
open Go.ChangeShapes Go.WideShapes Go.ChangeAt Go.RowKit

theorem own : ownKnob Edag.prog.godebug = none := by kernel_rfl
theorem laidOut : laidOutB Edag.prog = true := by kernel_rfl
theorem Edag.cells9 : Edag.prog.cellsOf 9 = 1 := by kernel_rfl
theorem Edag.cells3 : Edag.prog.cellsOf 3 = 1 := by kernel_rfl

/-- A slice of strings that came in, as the walk wants it. -/
theorem strRow_of {H : Type} {enc : TypeId × Value → H} {W : World} {a : Option Addr} {len cap : Nat} {d : DataW H} {p : List MemPlace}
    (h : DataW.Trod enc Edag.prog W 0 (fun _ => true) true 22 (.slice a len cap) d p) : ∃ S, StrRow W a len S ∧ len ≤ maxLen ∧ ∀ k, k < len → (S k).size ≤ maxLen := by
  obtain ⟨fuel, hf⟩ := h
  rcases open_strings Edag.underlying22 Edag.underlying9 Edag.cells9 hf with ⟨hcs, _⟩ | ⟨x, l, c, zs, hcs, _, hl, hm, hz, _, hcell, hwz⟩
  · simp [Value.cells] at hcs
    obtain ⟨rfl, rfl, rfl⟩ := hcs
    exact ⟨fun _ => ByteArray.empty, fun h => by omega, by simp [maxLen], fun k hk => by omega⟩
  · simp [Value.cells] at hcs
    obtain ⟨rfl, rfl, rfl⟩ := hcs
    simp only [if_true] at hz
    refine ⟨fun k => zs.getD k ByteArray.empty, fun h0 => ?_, Nat.le_trans hl hm, fun k hk => ?_⟩
    · obtain ⟨b, off, spot⟩ := x
      have hspot : spot = none := by simpa [Addr.add] using World.cell?_spot (hcell 0 (by omega))
      subst hspot
      refine ⟨b, off, rfl, ?_, fun k hk => ?_⟩
      · have := World.block_lt_of_cell? _ _ (hcell 0 (by omega))
        rw [add_plain] at this
        exact this
      · rw [← add_plain]
        exact hcell k (by omega)
    · have hk' : k < zs.length := by omega
      simp only [List.getD_eq_getElem?_getD, List.getElem?_eq_getElem hk', Option.getD_some]
      exact hwz _ (List.getElem_mem hk')

/-- A slice of ints that came in, as the walk wants it. -/
theorem intRow_of {H : Type} {enc : TypeId × Value → H} {W : World} {a : Option Addr} {len cap : Nat} {d : DataW H} {p : List MemPlace}
    (h : DataW.Trod enc Edag.prog W 0 (fun _ => true) true 23 (.slice a len cap) d p) : ∃ Z, IntRow W a len Z ∧ len ≤ maxLen := by
  obtain ⟨fuel, hf⟩ := h
  rcases open_ints Edag.underlying23 Edag.underlying3 Edag.cells3 hf with ⟨hcs, _⟩ | ⟨x, l, c, zs, hcs, _, hl, hm, hz, _, hcell, hwz⟩
  · simp [Value.cells] at hcs
    obtain ⟨rfl, rfl, rfl⟩ := hcs
    exact ⟨fun _ => 0, fun h => by omega, by simp [maxLen]⟩
  · simp [Value.cells] at hcs
    obtain ⟨rfl, rfl, rfl⟩ := hcs
    simp only [if_true] at hz
    refine ⟨fun k => zs.getD k 0, fun h0 => ?_, Nat.le_trans hl hm⟩
    obtain ⟨b, off, spot⟩ := x
    have hspot : spot = none := by simpa [Addr.add] using World.cell?_spot (hcell 0 (by omega))
    subst hspot
    refine ⟨b, off, rfl, ?_, fun k hk => ?_⟩
    · have := World.block_lt_of_cell? _ _ (hcell 0 (by omega))
      rw [add_plain] at this
      exact this
    · rw [← add_plain]
      exact hcell k (by omega)
end Go.Proofs.YoedawDoor
