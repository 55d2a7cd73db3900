import Derived.Test.YoedawDoorBase
namespace Go.Proofs.YoedawDoor
open Go.ChangeShapes Go.WideShapes Go.ChangeAt Go.RowKit

/-- What is known of a slice of strings that came in: if it has an element, its cells. -/
def StrRow (w : World) (a : Option Addr) (len : Nat) (S : Nat → ByteArray) : Prop :=
  0 < len → ∃ b off, a = some ⟨b, off, none⟩ ∧ b < w.heap.size ∧ ∀ k, k < len → w.cell? ⟨b, off + k, none⟩ = some (.string (S k))
/-- .. of a slice of ints. -/
def IntRow (w : World) (a : Option Addr) (len : Nat) (Z : Nat → Int) : Prop :=
  0 < len → ∃ b off, a = some ⟨b, off, none⟩ ∧ b < w.heap.size ∧ ∀ k, k < len → w.cell? ⟨b, off + k, none⟩ = some (.int .i64 (Z k))
def SomeBool (e : Ending) : Prop := ∃ q : Bool, e = .returned (.bool q)

set_option maxHeartbeats 400000 in
/-- The length test of 'FnBinaryExprStringChainClosedForm' answers a bool and leaves memory alone. -/
theorem bytes5_any (a0 a1 : Option Addr) (len cap l1 c1 : Nat) (r : Bool) (S : Nat → ByteArray) (w : World) (hl : len ≤ maxLen) (hl1 : l1 ≤ maxLen)
    (hS : ∀ k, k < len → (S k).size ≤ maxLen) (hc : StrRow w a0 len S) :
    Calls Edag.prog 5 #[.slice a0 len cap, .slice a1 l1 c1, .bool r] w fun e w' => SomeBool e ∧ w' = w := by
  unfold maxLen at *
  go_enter Edag.func5, Edag.ntmps5
  go_wp2
  · go_ret; exact ⟨⟨_, rfl⟩, rfl⟩
  go_loop [7, 8] (fun n i => ∃ (k : Nat) (z : Int), k ≤ len ∧ i = .int .i64 k ∧ n = .int .i64 z ∧ 0 ≤ z ∧ z ≤ 1048576) (fun _ i => len - (intOf i).toNat)
  case atStart => exact ⟨0, _, Nat.zero_le _, rfl, rfl, by omega, by omega⟩
  case round =>
    obtain ⟨k, z, hk, rfl, rfl, hz0, hz⟩ := hrel
    by_cases hlt : k < len
    · obtain ⟨b, off, rfl, _, hcc⟩ := hc (by omega)
      have hck := hcc k hlt
      have hs := hS k hlt
      clear hc hS hcc
      go_wp2
      · go_ret; exact ⟨⟨_, rfl⟩, rfl⟩
      · go_ret; exact ⟨⟨_, rfl⟩, rfl⟩
      · go_round
        case rel => exact ⟨k + 1, _, by omega, by go_num, rfl, by omega, by omega⟩
        case measure => simp [intOf]; omega
    · clear hc hS
      go_wp2
      all_goals (go_ret; exact ⟨⟨_, rfl⟩, rfl⟩)

set_option maxHeartbeats 400000 in
/-- The length test of 'FnBinaryExprStringBalancedAndShapeVisible' answers a bool and leaves memory alone. -/
theorem bytes11_any (a0 a1 : Option Addr) (len cap l1 c1 : Nat) (S : Nat → ByteArray) (w : World) (hl : len ≤ maxLen) (hl1 : l1 ≤ maxLen)
    (hS : ∀ k, k < len → (S k).size ≤ maxLen) (hc : StrRow w a0 len S) :
    Calls Edag.prog 11 #[.slice a0 len cap, .slice a1 l1 c1] w fun e w' => SomeBool e ∧ w' = w := by
  unfold maxLen at *
  go_enter Edag.func11, Edag.ntmps11
  go_wp2
  · go_ret; exact ⟨⟨_, rfl⟩, rfl⟩
  go_loop [5, 6] (fun n i => ∃ (k : Nat) (z : Int), k ≤ len ∧ i = .int .i64 k ∧ n = .int .i64 z ∧ 0 ≤ z ∧ z ≤ 1048576) (fun _ i => len - (intOf i).toNat)
  case atStart => exact ⟨0, _, Nat.zero_le _, rfl, rfl, by omega, by omega⟩
  case round =>
    obtain ⟨k, z, hk, rfl, rfl, hz0, hz⟩ := hrel
    by_cases hlt : k < len
    · obtain ⟨b, off, rfl, _, hcc⟩ := hc (by omega)
      have hck := hcc k hlt
      have hs := hS k hlt
      clear hc hS hcc
      go_wp2
      · go_ret; exact ⟨⟨_, rfl⟩, rfl⟩
      · go_ret; exact ⟨⟨_, rfl⟩, rfl⟩
      · go_round
        case rel => exact ⟨k + 1, _, by omega, by go_num, rfl, by omega, by omega⟩
        case measure => simp [intOf]; omega
    · clear hc hS
      go_wp2
      all_goals (go_ret; exact ⟨⟨_, rfl⟩, rfl⟩)
end Go.Proofs.YoedawDoor
