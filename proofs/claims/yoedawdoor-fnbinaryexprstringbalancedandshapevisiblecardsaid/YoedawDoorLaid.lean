import Derived.Test.YoedawDoorRoot
import Derived.Test.YoedawDoorTie
import Derived.LaidByTextLater
import Derived.LaidLaws
import Derived.LaidHandle
import Derived.MakeChecks
import Derived.Stop.Joined
namespace Go.Proofs.YoedawDoor
open Go.ChangeShapes Go.WideShapes Go.ChangeAt Go.WideMaps Go.WideElems Go.RowKit

/-- What the two rows list. -/
def laidList : List (String × DataW Unit) := Rows.fnBinaryExprStringChainClosedFormRow.laid
/-- The tokens' table, by its name in the dump. -/
def tokName : String := Rows.fnBinaryExprStringChainClosedFormSpec.vars.headD ""

theorem gTokens : Edag.prog.globalNamed tokName = some 0 := by kernel_rfl
theorem tTokens : (Edag.prog.globals[0]?).map (·.type) = some 46 := by kernel_rfl
theorem cells46 : Edag.prog.cellsOf 46 = 75 := by kernel_rfl
theorem dcells9 : Edag.prog.cellsOf 9 = 1 := by kernel_rfl

/-- An array that reads as a datum: element i. -/
theorem arr_get {H : Type} {enc : TypeId × Value → H} {W : World} {sp : Nat → Bool} {held : Bool} {fuel n : Nat} {t e : TypeId} {cs : List Value} {ds : List (DataW H)} {p : List MemPlace} (ht : Edag.prog.underlying t = some (.array n e))
    (h : DataW.trod enc Edag.prog W 0 sp held fuel t cs = some (.agg ds, p)) (i : Nat) (hi : i < n) :
    ∃ m y, DataW.trod enc Edag.prog W 0 sp held m e ((cs.drop (i * Edag.prog.cellsOf e)).take (Edag.prog.cellsOf e)) = some y ∧ ds[i]? = some y.1 := by
  cases fuel with
  | zero => simp [DataW.trod] at h
  | succ m =>
    unfold DataW.trod at h
    rw [ht] at h
    split at h <;> simp_all
    obtain ⟨_, xs, hp, hd, _⟩ := h
    have hlen := mapM_some_length hp
    have hg := mapM_some_get hp i i (by simp [hi])
    have hx : i < xs.length := by rw [hlen]; simpa using hi
    rw [List.getElem?_eq_getElem hx] at hg
    refine ⟨m, _, ⟨_, hg⟩, ?_⟩
    rw [← hd, List.getElem?_map, List.getElem?_eq_getElem hx]
    rfl

/-- An array of strings that reads as a datum: each cell. -/
theorem arr_cells {H : Type} {enc : TypeId × Value → H} {W : World} {sp : Nat → Bool} {held : Bool} {fuel : Nat} {cs : List Value} {ds : List (DataW H)} {p : List MemPlace}
    (h : DataW.trod enc Edag.prog W 0 sp held fuel 46 cs = some (.agg ds, p)) (i : Nat) (hi : i < 75) (l : List UInt8) (hl : ds[i]? = some (.lit (.string l))) : cs[i]? = some (.string ⟨l.toArray⟩) := by
  obtain ⟨m, y, hy, hd⟩ := arr_get Edag.underlying46 h i hi
  obtain ⟨s, e1, e2, _⟩ := DataW.trod_string Edag.underlying9 hy
  rw [hd, e2] at hl
  simp at hl
  subst hl
  rw [dcells9] at e1
  have e3 := congrArg (fun l => l[0]?) e1
  simp [List.getElem?_drop] at e3
  simpa using e3

/-- WHAT THE CONDITION GIVES THE WALKS: the tokens' texts. -/
theorem toks_of_laid {W : World} (h : laidMetH Edag.prog laidList W) : Toks W := by
  rw [MakeChecks.laidMetH_plain _ _ _ (by kernel_rfl)] at h
  obtain ⟨ps, ⟨g0, t0, cs0, f0, p0, q0, _, _, _, _, ⟨g1, t1, cs1, f1, p1, q1, _, _, _, _, ⟨g2, t2, cs2, f2, p2, q2, _, _, _, _, ⟨g3, t3, cs3, f3, p3, q3, hg3, ht3, hv3, hd3, _, _⟩, _⟩, _⟩, _⟩, _, _⟩ := h
  obtain rfl := Option.some.inj (gTokens.symm.trans hg3)
  obtain rfl := Option.some.inj (tTokens.symm.trans ht3)
  have key : ∀ (t : Nat) (l : List UInt8), t < 75 → (match (Rows.laid_github_com_d5_tengo_v2_token_tokens : DataW Unit) with | .agg ds => ds[t]? | _ => Option.none) = some (.lit (.string l)) → W.cell? ⟨0, t, none⟩ = some (.string ⟨l.toArray⟩) := by
    intro t l ht hl
    have hc := arr_cells hd3 t ht l hl
    have := World.var?_cell hg3 hv3 t
    rw [this]
    simpa using hc
  intro k
  unfold tokOf strOf
  have hm : (k % 19).toNat < 19 := by omega
  generalize (k % 19).toNat = m at *
  have : m = 0 ∨ m = 1 ∨ m = 2 ∨ m = 3 ∨ m = 4 ∨ m = 5 ∨ m = 6 ∨ m = 7 ∨ m = 8 ∨ m = 9 ∨ m = 10 ∨ m = 11 ∨ m = 12 ∨ m = 13 ∨ m = 14 ∨ m = 15 ∨ m = 16 ∨ m = 17 ∨ m = 18 := by omega
  rcases this with rfl | rfl | rfl | rfl | rfl | rfl | rfl | rfl | rfl | rfl | rfl | rfl | rfl | rfl | rfl | rfl | rfl | rfl | rfl
  · exact ⟨11, rfl, by decide, key 11 _ (by decide) rfl⟩
  · exact ⟨12, rfl, by decide, key 12 _ (by decide) rfl⟩
  · exact ⟨13, rfl, by decide, key 13 _ (by decide) rfl⟩
  · exact ⟨14, rfl, by decide, key 14 _ (by decide) rfl⟩
  · exact ⟨15, rfl, by decide, key 15 _ (by decide) rfl⟩
  · exact ⟨16, rfl, by decide, key 16 _ (by decide) rfl⟩
  · exact ⟨17, rfl, by decide, key 17 _ (by decide) rfl⟩
  · exact ⟨18, rfl, by decide, key 18 _ (by decide) rfl⟩
  · exact ⟨19, rfl, by decide, key 19 _ (by decide) rfl⟩
  · exact ⟨20, rfl, by decide, key 20 _ (by decide) rfl⟩
  · exact ⟨21, rfl, by decide, key 21 _ (by decide) rfl⟩
  · exact ⟨33, rfl, by decide, key 33 _ (by decide) rfl⟩
  · exact ⟨34, rfl, by decide, key 34 _ (by decide) rfl⟩
  · exact ⟨37, rfl, by decide, key 37 _ (by decide) rfl⟩
  · exact ⟨42, rfl, by decide, key 42 _ (by decide) rfl⟩
  · exact ⟨38, rfl, by decide, key 38 _ (by decide) rfl⟩
  · exact ⟨39, rfl, by decide, key 39 _ (by decide) rfl⟩
  · exact ⟨43, rfl, by decide, key 43 _ (by decide) rfl⟩
  · exact ⟨44, rfl, by decide, key 44 _ (by decide) rfl⟩

/-- THE WITNESS's WORLD: the door's own heap: it meets the condition: three closed facts. -/
theorem door_met (os : Os) (args : Array Value) : laidMetH Edag.prog laidList (({ World.holding Edag.prog os ⟨#[], #[], []⟩ with heap := (varsWorld Edag.prog 29 (varsId Edag.prog) os (fun _ _ => 0)).heap } : World).forCall (fun _ _ => 0) ⟨#[], args, []⟩).memory :=
  laidMetH_of_parts3 (fuel := 8) (laidMet_of_run' 8 (by kernel_rfl) (by kernel_rfl)) (by kernel_rfl) (by kernel_rfl)
end Go.Proofs.YoedawDoor
