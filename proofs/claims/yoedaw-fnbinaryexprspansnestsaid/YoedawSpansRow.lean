import Derived.Test.YoedawSpans
import Derived.Test.YoedawSpansR
import Derived.Test.YoedawRowKit
namespace Go.Proofs.Yoedaw
open Go.ChangeShapes Go.WideShapes Go.ChangeAt Go.RowKit

theorem spans_walk (a0 a1 a2 : Option Addr) (n c0 l1 c1 l2 c2 : Nat) (r : Bool) (S : Nat → ByteArray) (P Z : Nat → Int) (w : World) (hl0 : n ≤ maxLen) (hl1 : l1 ≤ maxLen) (hl2 : l2 ≤ maxLen)
    (hS : ∀ k, k < n → (S k).size ≤ maxLen) (h0 : StrRow w a0 n S) (h1 : IntRow w a1 l1 P) (h2 : IntRow w a2 l2 Z) :
    Calls Edag.prog 4 #[.slice a0 n c0, .slice a1 l1 c1, .slice a2 l2 c2, .bool r] w fun e w' => e = .returned (.bool true) ∧ Below w.heap.size w w' := by
  cases r with
  | false => exact spans_left a0 a1 a2 n c0 l1 c1 l2 c2 S P Z w hl0 hl1 hl2 hS h0 h1 h2
  | true => exact spans_right a0 a1 a2 n c0 l1 c1 l2 c2 S P Z w hl0 hl1 hl2 hS h0 h1 h2

set_option maxRecDepth 100000 in
theorem spans_lifted (os : Os) (started : os.Started) (H : Type) (enc : TypeId × Value → H) :
    ReturnsInHanded {} Edag.checked os 4 .any (Rows.fnBinaryExprSpansNestSpec.pre6 enc Edag.prog Edag.f4 Rows.fnBinaryExprSpansNestRow.domain false) (Rows.fnBinaryExprSpansNestSpec.post enc Edag.prog Edag.f4 false true false false) := by
  refine returnsInHanded_of_change (C := Edag.checked) own started (by kernel_rfl) Edag.func4
    (ChangeSpec.witness6 (enc := enc) (C := Edag.checked) false ⟨#[], #[.slice none 0 0, .slice none 0 0, .slice none 0 0, .bool false], []⟩ 8 (by kernel_rfl) (by kernel_rfl) (by kernel_rfl) (by kernel_rfl)) ?_
  intro W base args ds gs before hval0 hW hcnd _
  have hval : ∀ (j : Nat) t v, Edag.f4.params[j]? = some t → args[j]? = some v → Value.okWide Edag.prog W .any base t v := hval0
  have hW' := hW
  obtain ⟨p, q, hA0, hV, rfl, hfz, hnd⟩ := hW
  have hA : DataW.TrodAll enc Edag.prog W 0 (fun _ => true) true Edag.f4.params.toList args.toList ds p := hA0
  rw [Edag.params4] at hA hval
  obtain ⟨v0, vs0, d0, ds0, p0, q0, hargs, rfl, rfl, h0, r0⟩ := trodAll_cons hA
  obtain ⟨v1, vs1, d1, ds1, p1, q1, rfl, rfl, rfl, h1, r1⟩ := trodAll_cons r0
  obtain ⟨v2, vs2, d2, ds2, p2, q2, rfl, rfl, rfl, h2, r2⟩ := trodAll_cons r1
  obtain ⟨v3, vs3, d3, ds3, p3, q3, rfl, rfl, rfl, h3, r3⟩ := trodAll_cons r2
  obtain ⟨rfl, rfl, rfl⟩ := trodAll_nil r3
  obtain rfl : args = #[v0, v1, v2, v3] := by cases args; simp_all
  obtain ⟨rfl, rfl⟩ := trodVars_none hV
  obtain ⟨a0, len0, cap0, rfl⟩ := okWide_slice Edag.underlying22 (hval 0 22 v0 rfl rfl)
  have lt0 : ∀ x ∈ p0, x.block < W.heap.size := by obtain ⟨m, hm⟩ := h0; exact DataW.trod_lt m _ _ _ hm
  obtain ⟨S, w0, m0, hS⟩ := strRow_of h0
  obtain ⟨a1, len1, cap1, rfl⟩ := okWide_slice Edag.underlying23 (hval 1 23 v1 rfl rfl)
  have lt1 : ∀ x ∈ p1, x.block < W.heap.size := by obtain ⟨m, hm⟩ := h1; exact DataW.trod_lt m _ _ _ hm
  obtain ⟨P, w1, m1⟩ := intRow_of h1
  obtain ⟨a2, len2, cap2, rfl⟩ := okWide_slice Edag.underlying23 (hval 2 23 v2 rfl rfl)
  have lt2 : ∀ x ∈ p2, x.block < W.heap.size := by obtain ⟨m, hm⟩ := h2; exact DataW.trod_lt m _ _ _ hm
  obtain ⟨Z, w2, m2⟩ := intRow_of h2
  obtain ⟨a3, rfl, rfl, rfl⟩ := open_bool Edag.underlying4 (hval 3 4 v3 rfl rfl) h3
  clear hA0 hval0
  refine (spans_walk a0 a1 a2 len0 cap0 len1 cap1 len2 cap2 a3 S P Z W m0 m1 m2 hS w0 w1 w2).mono fun e W' ⟨he, bel⟩ => ?_
  subst he
  exact ⟨_, rfl, _, _, _, [], _, [], hW', trodAll_mk1 (shut_bool Edag.underlying4 _), (trodAll_mk4 (Below.trod laidOut (by kernel_rfl) (of_decide_eq_true (by kernel_rfl)) h0 bel lt0) (Below.trod laidOut (by kernel_rfl) (of_decide_eq_true (by kernel_rfl)) h1 bel lt1) (Below.trod laidOut (by kernel_rfl) (of_decide_eq_true (by kernel_rfl)) h2 bel lt2) (shut_bool Edag.underlying4 _)), rfl, bel.frame _, fun h => by cases h⟩

/-- THE STATEMENT. -/
theorem spansNest_holds : Rows.FnBinaryExprSpansNestSaid :=
  OpenClaim.holds_of_wide 4 Edag.f4 rfl rfl rfl rfl rfl rfl rfl ⟨rfl, rfl, rfl, rfl, rfl⟩ rfl rfl rfl rfl rfl (by kernel_rfl) Edag.func4 (by kernel_rfl)
    (of_decide_eq_true (by kernel_rfl)) (by unfold Func.isWrapper; first | (rw [if_pos (by decide +kernel)]; kernel_rfl) | (rw [if_neg (by decide +kernel)]; exact ⟨rfl, rfl⟩))
    (fun os started H enc _ => spans_lifted os started H enc)
end Go.Proofs.Yoedaw
