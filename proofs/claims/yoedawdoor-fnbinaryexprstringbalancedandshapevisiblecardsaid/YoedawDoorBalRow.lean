import Derived.Test.YoedawDoorBal
import Derived.Test.YoedawDoorRowKit
import Derived.Test.YoedawDoorLaid
namespace Go.Proofs.YoedawDoor
open Go.ChangeShapes Go.WideShapes Go.ChangeAt Go.WideMaps Go.WideElems Go.RowKit

set_option maxRecDepth 100000 in
theorem bal_lifted (os : Os) (started : os.Started) (H : Type) (enc : TypeId × Value → H) :
    ReturnsInHanded {} Edag.checked os 4 .any (fun w args => (Rows.fnBinaryExprStringBalancedAndShapeVisibleSpec.pre enc Edag.prog Edag.f4 [] false w args ∧ laidMetH Edag.prog laidList w) ∧ sizedMet enc Edag.prog Edag.f4 (OpenSpec.ofChange Rows.fnBinaryExprStringBalancedAndShapeVisibleSpec) false w args)
      (Rows.fnBinaryExprStringBalancedAndShapeVisibleSpec.post enc Edag.prog Edag.f4 false true false false) := by
  refine returnsInHanded_of_change_and (C := Edag.checked) (X := fun w _ => laidMetH Edag.prog laidList w) (fun _ _ _ hh h => h.of_heap hh) own started (by kernel_rfl) Edag.func4
    (ChangeSpec.witness_shaped (enc := enc) (C := Edag.checked) (os := os) (X := fun w _ => laidMetH Edag.prog laidList w) false ({ World.holding Edag.prog os ⟨#[], #[], []⟩ with heap := (varsWorld Edag.prog 29 (varsId Edag.prog) os (fun _ _ => 0)).heap } : World) #[.slice none 0 0, .slice none 0 0] 8 rfl (World.shaped_of_RefB (by kernel_rfl) (by kernel_rfl)) (by kernel_rfl) (by kernel_rfl) (by kernel_rfl) (door_met os _)) ?_
  intro W base args ds gs before hval0 hW _ _ hL _
  have hval : ∀ (j : Nat) t v, Edag.f4.params[j]? = some t → args[j]? = some v → Value.okWide Edag.prog W .any base t v := hval0
  have hW' := hW
  obtain ⟨p, q, hA0, hV0, rfl, hfz, hnd⟩ := hW
  have hA : DataW.TrodAll enc Edag.prog W 0 (fun _ => true) true Edag.f4.params.toList args.toList ds p := hA0
  have hV : DataW.TrodVars enc Edag.prog W (fun _ => true) [tokName] gs q := hV0
  rw [Edag.params4] at hA hval
  obtain ⟨v0, v1, d0, d1, p0, p1, rfl, rfl, rfl, h0, h1⟩ := trodAll_two hA
  obtain ⟨g, t, cs, fuel, d, p', rfl, hg, ht, hvar, hd, rfl⟩ := trodVars_one hV
  obtain rfl := Option.some.inj (gTokens.symm.trans hg)
  obtain rfl := Option.some.inj (tTokens.symm.trans ht)
  obtain ⟨a0, len0, cap0, rfl⟩ := okWide_slice Edag.underlying22 (hval 0 22 v0 rfl rfl)
  have lt0 : ∀ x ∈ p0, x.block < W.heap.size := by obtain ⟨m, hm⟩ := h0; exact DataW.trod_lt m _ _ _ hm
  obtain ⟨S, w0, m0, hS⟩ := strRow_of h0
  obtain ⟨a1, len1, cap1, rfl⟩ := okWide_slice Edag.underlying23 (hval 1 23 v1 rfl rfl)
  have lt1 : ∀ x ∈ p1, x.block < W.heap.size := by obtain ⟨m, hm⟩ := h1; exact DataW.trod_lt m _ _ _ hm
  obtain ⟨Z, w1, m1⟩ := intRow_of h1
  have htk := toks_of_laid hL
  have hW0 : 0 < W.heap.size := by
    obtain ⟨t, _, _, hc⟩ := htk 0
    exact World.block_lt_of_cell? _ _ hc
  have ltv : ∀ x ∈ p', x.block < W.heap.size := DataW.trod_lt fuel _ _ _ hd
  clear hA0 hV0 hval0
  refine (bal_walk a0 a1 len0 cap0 len1 cap1 S Z W htk m0 m1 hS w0 w1).mono fun e W' ⟨he, bel⟩ => ?_
  subst he
  obtain ⟨fv, hdv⟩ := Below.trod (v := .agg cs) laidOut (by kernel_rfl) (of_decide_eq_true (by kernel_rfl)) ⟨fuel, hd⟩ bel ltv
  exact ⟨_, rfl, _, _, _, [], _, _, hW', trodAll_mk1 (shut_bool Edag.underlying4 _), (trodAll_mk2 (Below.trod laidOut (by kernel_rfl) (of_decide_eq_true (by kernel_rfl)) h0 bel lt0) (Below.trod laidOut (by kernel_rfl) (of_decide_eq_true (by kernel_rfl)) h1 bel lt1)), trodVars_mk1 hg ht (var?_below bel hg hW0 hvar) hdv, bel.frame _, fun h => by cases h⟩

/-- THE ROW. -/
theorem bal_holds : Rows.FnBinaryExprStringBalancedAndShapeVisibleSaid :=
  OpenClaim.holds_of_wide 4 Edag.f4 rfl rfl rfl rfl rfl rfl rfl ⟨rfl, rfl, rfl, rfl, rfl⟩ rfl rfl rfl rfl rfl (by kernel_rfl) Edag.func4 (by kernel_rfl)
    (of_decide_eq_true (by kernel_rfl)) (by unfold Func.isWrapper; first | (rw [if_pos (by decide +kernel)]; kernel_rfl) | (rw [if_neg (by decide +kernel)]; exact ⟨rfl, rfl⟩))
    (fun os started H enc _ => bal_lifted os started H enc)
end Go.Proofs.YoedawDoor
