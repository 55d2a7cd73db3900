import Derived.Test.YoedawDoorBuildR
import Derived.Deep.RegionWith
namespace Go.Proofs.YoedawDoor
open Go.ChangeShapes Go.WideShapes Go.ChangeAt Go.RowKit

set_option maxHeartbeats 400000 in
/-- '(*Ident).String'. -/
theorem identString_any (b : Nat) (s : ByteArray) (w : World) (h0 : w.cell? ⟨b, 0, none⟩ = some (.string s)) :
    Calls Edag.prog 46 #[.pointer (some ⟨b, 0, none⟩)] w fun e w' => e = .returned (.string s) ∧ w' = w := by
  go_enter Edag.func46, Edag.ntmps46
  go_wp2
  go_ret
  exact ⟨rfl, rfl⟩

set_option maxRecDepth 100000 in
set_option maxHeartbeats 400000 in
/-- '(Token).String' at a token whose text is known. -/
theorem tokString_at (t : Nat) (s : ByteArray) (w : World) (ht : (t : Int) < 75) (hs : s.toList.isEmpty = false) (h0 : w.cell? ⟨0, t, none⟩ = some (.string s)) :
    Calls Edag.prog 14 #[.int .i64 t] w fun e w' => e = .returned (.string s) ∧ w' = w := by
  have h00 : (0 : Int) ≤ (t : Int) := by omega
  go_enter Edag.func14, Edag.ntmps14
  go_wp2_with fail
  go_ret
  exact ⟨rfl, rfl⟩

theorem m37 (a : Addr) (w : World) : (method 183 37 (.pointer (some a)) "String").run Edag.prog w = .ok (46, .pointer (some a)) w := by kernel_rfl
theorem m29 (a : Addr) (w : World) : (method 183 29 (.pointer (some a)) "String").run Edag.prog w = .ok (9, .pointer (some a)) w := by kernel_rfl

/-- The text of one node. -/
def nodeTxt (a o b : ByteArray) : ByteArray := ⟨#[40]⟩ ++ a ++ ⟨#[32]⟩ ++ o ++ ⟨#[32]⟩ ++ b ++ ⟨#[41]⟩

set_option maxRecDepth 100000 in
set_option maxHeartbeats 400000 in
theorem string_leaves (b i0 i1 t : Nat) (a o c : ByteArray) (w : World) (h0 : w.cell? ⟨b, 0, none⟩ = some (.iface 37 (.pointer (some ⟨i0, 0, none⟩)))) (h1 : w.cell? ⟨b, 1, none⟩ = some (.iface 37 (.pointer (some ⟨i1, 0, none⟩))))
    (h2 : w.cell? ⟨b, 2, none⟩ = some (.int .i64 t)) (ha : w.cell? ⟨i0, 0, none⟩ = some (.string a)) (hc : w.cell? ⟨i1, 0, none⟩ = some (.string c)) (hto : w.cell? ⟨0, t, none⟩ = some (.string o)) (ht : (t : Int) < 75) (hoe : o.toList.isEmpty = false)
    (sa : (a.size : Int) ≤ 1099511627776) (so : (o.size : Int) ≤ 2) (sc : (c.size : Int) ≤ 1099511627776) :
    Calls Edag.prog 9 #[.pointer (some ⟨b, 0, none⟩)] w fun e w' => e = .returned (.string (nodeTxt a o c)) ∧ ∃ n, w' = w.drewN n := by
  have hm1 := m37
  have hm2 := m29
  have ha' : ∀ n, (w.drewN n).cell? ⟨i0, 0, none⟩ = some (.string a) := fun n => by simpa using ha
  have hc' : ∀ n, (w.drewN n).cell? ⟨i1, 0, none⟩ = some (.string c) := fun n => by simpa using hc
  have hto' : ∀ n, (w.drewN n).cell? ⟨0, t, none⟩ = some (.string o) := fun n => by simpa using hto
  have HA : Hid _ := ha'
  have HC : Hid _ := hc'
  have HT : Hid _ := hto'
  clear ha hc hto ha' hc' hto'
  go_enter Edag.func9, Edag.ntmps9
  go_wp2
  go_quiet (first | (go_at_call 14; exact Calls.quiet_of_same (tokString_at _ _ _ ht hoe (HT.out _))) | (go_at_call_of 46 (Value.pointer (some ⟨i0, 0, none⟩)); exact Calls.quiet_of_same (identString_any _ _ _ (HA.out _))) | (go_at_call_of 46 (Value.pointer (some ⟨i1, 0, none⟩)); exact Calls.quiet_of_same (identString_any _ _ _ (HC.out _))))
  go_wp2
  go_ret
  exact ⟨rfl, _, rfl⟩
set_option maxRecDepth 100000 in
set_option maxHeartbeats 400000 in
theorem string_left (b i0 i1 t : Nat) (a o c : ByteArray) (w : World) (h0 : w.cell? ⟨b, 0, none⟩ = some (.iface 29 (.pointer (some ⟨i0, 0, none⟩)))) (h1 : w.cell? ⟨b, 1, none⟩ = some (.iface 37 (.pointer (some ⟨i1, 0, none⟩))))
    (h2 : w.cell? ⟨b, 2, none⟩ = some (.int .i64 t)) (ha : ∀ n, Calls Edag.prog 9 #[.pointer (some ⟨i0, 0, none⟩)] (w.drewN n) fun e w' => e = .returned (.string a) ∧ ∃ m, w' = (w.drewN n).drewN m) (hc : w.cell? ⟨i1, 0, none⟩ = some (.string c)) (hto : w.cell? ⟨0, t, none⟩ = some (.string o)) (ht : (t : Int) < 75) (hoe : o.toList.isEmpty = false)
    (sa : (a.size : Int) ≤ 1099511627776) (so : (o.size : Int) ≤ 2) (sc : (c.size : Int) ≤ 1099511627776) :
    Calls Edag.prog 9 #[.pointer (some ⟨b, 0, none⟩)] w fun e w' => e = .returned (.string (nodeTxt a o c)) ∧ ∃ n, w' = w.drewN n := by
  have hm1 := m37
  have hm2 := m29
  have hc' : ∀ n, (w.drewN n).cell? ⟨i1, 0, none⟩ = some (.string c) := fun n => by simpa using hc
  have hto' : ∀ n, (w.drewN n).cell? ⟨0, t, none⟩ = some (.string o) := fun n => by simpa using hto
  have HA : Hid (∀ n, Calls Edag.prog 9 #[.pointer (some ⟨i0, 0, none⟩)] (w.drewN n) fun e w' => e = .returned (.string a) ∧ ∃ m, w' = (w.drewN n).drewN m) := ha
  have HC : Hid _ := hc'
  have HT : Hid _ := hto'
  clear ha hc hto hc' hto'
  go_enter Edag.func9, Edag.ntmps9
  go_wp2
  go_quiet (first | (go_at_call 14; exact Calls.quiet_of_same (tokString_at _ _ _ ht hoe (HT.out _))) | (go_at_call 9; exact Calls.quiet_of (HA.out _)) | (go_at_call 46; exact Calls.quiet_of_same (identString_any _ _ _ (HC.out _))))
  go_wp2
  go_ret
  exact ⟨rfl, _, rfl⟩
set_option maxRecDepth 100000 in
set_option maxHeartbeats 400000 in
theorem string_right (b i0 i1 t : Nat) (a o c : ByteArray) (w : World) (h0 : w.cell? ⟨b, 0, none⟩ = some (.iface 37 (.pointer (some ⟨i0, 0, none⟩)))) (h1 : w.cell? ⟨b, 1, none⟩ = some (.iface 29 (.pointer (some ⟨i1, 0, none⟩))))
    (h2 : w.cell? ⟨b, 2, none⟩ = some (.int .i64 t)) (ha : w.cell? ⟨i0, 0, none⟩ = some (.string a)) (hc : ∀ n, Calls Edag.prog 9 #[.pointer (some ⟨i1, 0, none⟩)] (w.drewN n) fun e w' => e = .returned (.string c) ∧ ∃ m, w' = (w.drewN n).drewN m) (hto : w.cell? ⟨0, t, none⟩ = some (.string o)) (ht : (t : Int) < 75) (hoe : o.toList.isEmpty = false)
    (sa : (a.size : Int) ≤ 1099511627776) (so : (o.size : Int) ≤ 2) (sc : (c.size : Int) ≤ 1099511627776) :
    Calls Edag.prog 9 #[.pointer (some ⟨b, 0, none⟩)] w fun e w' => e = .returned (.string (nodeTxt a o c)) ∧ ∃ n, w' = w.drewN n := by
  have hm1 := m37
  have hm2 := m29
  have ha' : ∀ n, (w.drewN n).cell? ⟨i0, 0, none⟩ = some (.string a) := fun n => by simpa using ha
  have hto' : ∀ n, (w.drewN n).cell? ⟨0, t, none⟩ = some (.string o) := fun n => by simpa using hto
  have HA : Hid _ := ha'
  have HC : Hid (∀ n, Calls Edag.prog 9 #[.pointer (some ⟨i1, 0, none⟩)] (w.drewN n) fun e w' => e = .returned (.string c) ∧ ∃ m, w' = (w.drewN n).drewN m) := hc
  have HT : Hid _ := hto'
  clear ha hc hto ha' hto'
  go_enter Edag.func9, Edag.ntmps9
  go_wp2
  go_quiet (first | (go_at_call 14; exact Calls.quiet_of_same (tokString_at _ _ _ ht hoe (HT.out _))) | (go_at_call 46; exact Calls.quiet_of_same (identString_any _ _ _ (HA.out _))) | (go_at_call 9; exact Calls.quiet_of (HC.out _)))
  go_wp2
  go_ret
  exact ⟨rfl, _, rfl⟩

/-- The tokens' table, as far as it is read: block 0. -/
def Toks (w : World) : Prop := ∀ k : Int, ∃ t : Nat, tokOf k = t ∧ (t : Int) < 75 ∧ w.cell? ⟨0, t, none⟩ = some (.string (strOf k))

theorem Toks.drewN {w : World} (h : Toks w) (n : Nat) : Toks (w.drewN n) := fun k => by
  obtain ⟨t, h1, h2, h3⟩ := h k
  exact ⟨t, h1, h2, by simpa using h3⟩

theorem Toks.below {w w' : World} (h : Toks w) (hb : Below w.heap.size w w') : Toks w' := fun k => by
  obtain ⟨t, h1, h2, h3⟩ := h k
  exact ⟨t, h1, h2, cell_later hb h3⟩

theorem strOf_cases (k : Int) : ∃ l : List UInt8, strOf k = ⟨l.toArray⟩ ∧ (l.length = 1 ∨ l.length = 2) ∧ 40 ∉ l ∧ 41 ∉ l := by
  refine ⟨strTab.getD (k % 19).toNat [62, 61], rfl, ?_⟩
  have h : (k % 19).toNat < 19 := by omega
  generalize (k % 19).toNat = m at *
  have : m = 0 ∨ m = 1 ∨ m = 2 ∨ m = 3 ∨ m = 4 ∨ m = 5 ∨ m = 6 ∨ m = 7 ∨ m = 8 ∨ m = 9 ∨ m = 10 ∨ m = 11 ∨ m = 12 ∨ m = 13 ∨ m = 14 ∨ m = 15 ∨ m = 16 ∨ m = 17 ∨ m = 18 := by omega
  rcases this with rfl | rfl | rfl | rfl | rfl | rfl | rfl | rfl | rfl | rfl | rfl | rfl | rfl | rfl | rfl | rfl | rfl | rfl | rfl <;> decide

theorem strOf_size (k : Int) : ((strOf k).size : Int) ≤ 2 ∧ (strOf k).toList.isEmpty = false := by
  obtain ⟨l, e, hl, _⟩ := strOf_cases k
  rw [e]
  have h1 : (ByteArray.mk l.toArray).size = l.length := by show l.toArray.size = _; simp
  rw [h1]
  refine ⟨by omega, ?_⟩
  have h2 : (ByteArray.mk l.toArray).toList = l := by simp
  rw [h2]
  cases l with
  | nil => simp at hl
  | cons a r => rfl

/-- The text of node k. -/
def txt (right : Bool) (L0 L1 : ByteArray) (Lx : Nat → ByteArray) (Z : Nat → Int) : Nat → ByteArray
  | 0 => nodeTxt L0 (strOf (Z 0)) L1
  | k + 1 => if right then nodeTxt (Lx (k + 1)) (strOf (Z (k + 1))) (txt right L0 L1 Lx Z k) else nodeTxt (txt right L0 L1 Lx Z k) (strOf (Z (k + 1))) (Lx (k + 1))

theorem nodeTxt_size (a o b : ByteArray) : (nodeTxt a o b).size = a.size + o.size + b.size + 4 := by
  simp only [nodeTxt, ByteArray.size_append]
  have h1 : (ByteArray.mk #[40]).size = 1 := rfl
  have h2 : (ByteArray.mk #[32]).size = 1 := rfl
  have h3 : (ByteArray.mk #[41]).size = 1 := rfl
  omega

theorem txt_size (right : Bool) (L0 L1 : ByteArray) (Lx : Nat → ByteArray) (Z : Nat → Int) (h0 : L0.size ≤ 1048576) (h1 : L1.size ≤ 1048576) (k : Nat) (hx : ∀ j, j ≤ k → (Lx j).size ≤ 1048576) :
    (txt right L0 L1 Lx Z k).size ≤ 1048582 * (k + 2) := by
  induction k with
  | zero =>
    have := (strOf_size (Z 0)).1
    simp only [txt, nodeTxt_size]
    omega
  | succ k ih =>
    have i1 := ih fun j hj => hx j (by omega)
    have i2 := (strOf_size (Z (k + 1))).1
    have i3 := hx (k + 1) (Nat.le_refl _)
    simp only [txt]
    split <;> rw [nodeTxt_size] <;> omega

theorem string_any (g : Nat) (right : Bool) (L0 L1 : ByteArray × Int) (Lx : Nat → ByteArray × Int) (Z : Nat → Int) (s0 : L0.1.size ≤ 1048576) (s1 : L1.1.size ≤ 1048576) (k : Nat) (hk : k ≤ 4096) (sx : ∀ j, j ≤ k → (Lx j).1.size ≤ 1048576) :
    ∀ (b : Nat) (w : World), Toks w → ChB w g right L0 L1 Lx (fun k => tokOf (Z k)) k b →
      Calls Edag.prog 9 #[.pointer (some ⟨b, 0, none⟩)] w fun e w' => e = .returned (.string (txt right L0.1 L1.1 (fun k => (Lx k).1) Z k)) ∧ ∃ n, w' = w.drewN n := by
  induction k with
  | zero =>
    rintro b w htk ⟨i0, i1, hb, h0, h1, h2, ⟨_, hi0, _⟩, ⟨_, hi1, _⟩⟩
    obtain ⟨t, et, ht, hc⟩ := htk (Z 0)
    have ss := strOf_size (Z 0)
    exact string_leaves b i0 i1 t _ _ _ w h0 h1 (by rw [h2]; simp [et]) hi0 hi1 hc ht ss.2 (by omega) ss.1 (by omega)
  | succ k ih =>
    rintro b w htk ⟨i, b', hb, h0, h1, h2, ⟨_, hi0, _⟩, hc⟩
    obtain ⟨t, et, ht, hcell⟩ := htk (Z (k + 1))
    have ss := strOf_size (Z (k + 1))
    have ih' := ih (by omega) (fun j hj => sx j (by omega)) b'
    have hsz := txt_size right L0.1 L1.1 (fun k => (Lx k).1) Z s0 s1 k (fun j hj => sx j (by omega))
    have hsx := sx (k + 1) (Nat.le_refl _)
    have hcall : ∀ n, Calls Edag.prog 9 #[.pointer (some ⟨b', 0, none⟩)] (w.drewN n) fun e w' => e = .returned (.string (txt right L0.1 L1.1 (fun k => (Lx k).1) Z k)) ∧ ∃ m, w' = (w.drewN n).drewN m :=
      fun n => ih' (w.drewN n) (htk.drewN n) (ChB.keep (Keeps.drewN g n) _ _ hc)
    cases right with
    | false =>
      exact string_left b b' i t _ _ _ w (by simpa using h0) (by simpa using h1) (by rw [h2]; simp [et]) hcall hi0 hcell ht ss.2 (by omega) ss.1 (by show ((Lx (k + 1)).1.size : Int) ≤ _; omega)
    | true =>
      exact string_right b i b' t _ _ _ w (by simpa using h0) (by simpa using h1) (by rw [h2]; simp [et]) hi0 hcall hcell ht ss.2 (by show ((Lx (k + 1)).1.size : Int) ≤ _; omega) ss.1 (by omega)
end Go.Proofs.YoedawDoor
