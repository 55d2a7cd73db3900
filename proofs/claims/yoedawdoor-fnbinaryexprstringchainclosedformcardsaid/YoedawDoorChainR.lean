import Derived.Test.YoedawDoorRoot
namespace Go.Proofs.YoedawDoor
open Go.ChangeShapes Go.WideShapes Go.ChangeAt Go.RowKit
set_option linter.unusedVariables false

set_option maxRecDepth 100000 in
set_option maxHeartbeats 4000000 in
theorem chain_right (a0 a1 : Option Addr) (n c0 l1 c1 : Nat) (S : Nat → ByteArray) (Z : Nat → Int) (w : World) (htk : Toks w) (hl0 : n ≤ maxLen) (hl1 : l1 ≤ maxLen)
    (hS : ∀ k, k < n → (S k).size ≤ maxLen) (h0 : StrRow w a0 n S) (h1 : IntRow w a1 l1 Z) :
    Calls Edag.prog 3 #[.slice a0 n c0, .slice a1 l1 c1, .bool true] w fun e w' => e = .returned (.bool true) ∧ Below w.heap.size w w' := by
  unfold maxLen at hl0 hl1 hS
  go_enter Edag.func3, Edag.ntmps3
  go_wp2_with fail
  refine (bytes5_any a0 a1 n c0 l1 c1 true S w hl0 hl1 hS h0).mono ?_
  rintro e w ⟨⟨q, rfl⟩, rfl⟩
  cases q with
  | false =>
    go_wp2_with fail
    go_ret
    exact ⟨rfl, Below.refl _ _⟩
  | true =>
    by_cases hbig : n ≤ 256 ∧ l1 ≤ 4096
    case neg =>
      have hb3 : 256 < n ∨ (n ≤ 256 ∧ 4096 < l1) := by omega
      clear hbig
      rcases hb3 with h | ⟨h, h'⟩
      all_goals
        go_wp2_with fail
        go_ret
        exact ⟨rfl, Below.refl _ _⟩
    obtain ⟨hn4, hl14⟩ := hbig
    clear hl0 hl1
    go_wp2_with fail
    go_loop [7, 8] (fun t i => ∃ (k : Nat) (z : Int), k ≤ n ∧ i = .int .i64 k ∧ t = .int .i64 z ∧ 0 ≤ z ∧ z ≤ 1048576 * k ∧ ∀ j, j < k → ((S j).size : Int) ≤ 1048576) (fun _ i => n - (intOf i).toNat)
    case atStart => exact ⟨0, _, Nat.zero_le _, rfl, rfl, by omega, by omega, fun j hj => by omega⟩
    case round =>
      obtain ⟨k, z, hk, rfl, rfl, hz0, hz, hsm⟩ := hrel
      by_cases hlt : k < n
      · obtain ⟨b, off, rfl, _, hcc⟩ := h0 (by omega)
        have hck := hcc k hlt
        have hs := hS k hlt
        have HSM : Hid (∀ j, j < k → ((S j).size : Int) ≤ 1048576) := hsm
        clear h0 h1 hS hcc hsm htk
        by_cases hsk : ((S k).size : Int) ≤ 1048576
        · go_wp2_with fail
          go_round
          case rel =>
            refine ⟨k + 1, _, by omega, by go_num, rfl, by omega, by omega, fun j hj => ?_⟩
            by_cases e : j = k
            · subst e; exact hsk
            · exact HSM.out j (by omega)
          case measure => simp [intOf]; omega
        · go_wp2_with fail
          go_ret
          exact ⟨rfl, Below.refl _ _⟩
      · have e : k = n := by omega
        subst e
        have ht : Tiny k S := hsm
        clear hsm hS
        by_cases hmin : z ≤ 65536 ∧ 2 ≤ k ∧ k - 1 ≤ l1
        case neg =>
          clear h0 h1 htk
          by_cases hz1 : z ≤ 65536
          · have hb3 : k < 2 ∨ (2 ≤ k ∧ l1 < k - 1) := by omega
            clear hmin
            rcases hb3 with h | ⟨h, h'⟩
            all_goals
              go_wp2_with fail
              go_ret
              exact ⟨rfl, Below.refl _ _⟩
          · clear hmin
            go_wp2_with fail
            go_ret
            exact ⟨rfl, Below.refl _ _⟩
        obtain ⟨hz1, hk2, hkl1⟩ := hmin
        obtain ⟨nb, no, rfl, hnb, hnc⟩ := h0 (by omega)
        obtain ⟨ob, oo, rfl, hob, hoc⟩ := h1 (by omega)
        have HNC : Hid _ := hnc
        have HOC : Hid _ := hoc
        clear h0 h1 hnc hoc
        go_wp2_with fail
        refine (cloneStrings_any nb no k c0 S w (by omega) hnb HNC.out).mono ?_
        rintro e w1 ⟨rfl, hc1, hb1, hz1'⟩
        have HC1 : Hid _ := hc1
        have HZ1 : Hid _ := hz1'
        clear hc1 hz1'
        go_wp2_with fail
        refine (cloneInts_any ob oo l1 c1 Z w1 (by omega) (by have := hb1.size; omega) (fun k hk => (hb1.cell (by exact hob)).trans (HOC.out k hk))).mono ?_
        rintro e w2 ⟨rfl, hc2, hb2, hz2'⟩
        have HC2 : Hid _ := hc2
        have HZ2 : Hid _ := hz2'
        clear hc2 hz2'
        obtain ⟨G, hb⟩ := given_clones hb1 HZ1.out HC1.out hb2 HZ2.out HC2.out
        clear hb1 hb2 HZ1 HZ2 HC1 HC2 HNC HOC
        go_wp2_with fail
        refine (build_right w.heap.size 0 k w1.heap.size 0 l1 l1 k S Z w2 (by omega) (by omega) (by omega) G).mono ?_
        rintro e w4 ⟨rfl, hb4, hnodes⟩
        have hbw4 : Below w.heap.size w w4 := below_step hb hb4
        obtain ⟨rb, hrb, hch⟩ := hnodes (k - 1 - 1) (by omega)
        have HR := hid_of (root_right (g := w2.heap.size) (Z := Z) hk2 (by omega) ht (htk.below hbw4) hch)
        have G4 := G.below hb4
        have hw42 : w2.heap.size ≤ w4.heap.size := hb4.size
        have hi0 : (0 : Int) ≤ ((k - 1 : Nat) : Int) - 1 := by omega
        clear hnodes hch hb4 hb G
        go_wp2_with fail
        refine (HR.out).mono ?_
        rintro e w5 ⟨rfl, hb5⟩
        have G5 := G4.below (hb5.mono hw42)
        have hbw : Below w.heap.size w w5 := below_step hbw4 hb5
        have hw52 : w2.heap.size ≤ w5.heap.size := Nat.le_trans hw42 hb5.size
        clear HR hrb hi0 G4 hb5 hbw4 htk hw42
        have hSl : ∀ j, j < k → (bl (S j)).length ≤ 1048576 := fun j hj => by have := ht j hj; rw [bl_length]; omega
        have hOl : ∀ j, (bl (strOf (Z j))).length ≤ 2 := fun j => by have := (strOf_size (Z j)).1; rw [bl_length]; omega
        have HSl : Hid _ := hSl
        have HOl : Hid _ := hOl
        clear hSl hOl
        go_wp2_with fail
        go_loopw [12, 17] (fun v i wr => ∃ j : Nat, j ≤ k - 1 ∧ i = .int .i64 j ∧ Own w5 wr v (rights (fun j => bl (S j)) (fun j => bl (strOf (Z j))) j)) (fun _ i _ => k - (intOf i).toNat)
        case atStart => exact ⟨0, Nat.zero_le _, rfl, Own.start w5⟩
        case round =>
          obtain ⟨j, hj, rfl, hown⟩ := hrel
          have hlen := rights_len _ _ k HSl.out HOl.out j (by omega)
          by_cases hlt3 : j < k - 1
          · have HL : Hid (rights (fun j => bl (S j)) (fun j => bl (strOf (Z j))) (j + 1) = rights (fun j => bl (S j)) (fun j => bl (strOf (Z j))) j ++ [40] ++ bl (S j) ++ [32] ++ bl (strOf (Z j)) ++ [32]) := rfl
            have Gr := G5.below (hown.2.mono hw52)
            have hop : wr.cell? ⟨w1.heap.size, j, none⟩ = some (.int .i64 (Z j)) := by simpa using Gr.ops j (by omega)
            have hl1 := HOl.out j
            have hl2 := HSl.out j (by omega)
            have hl3 : (strOf (Z j)).size ≤ 2 := by rw [← bl_length]; exact hl1
            have hl4 : (S j).size ≤ 1048576 := by rw [← bl_length]; exact hl2
            have hj1 : (j : Int) < (k : Int) - 1 := by omega
            generalize rights (fun j => bl (S j)) (fun j => bl (strOf (Z j))) j = L at *
            go_wp2_with fail
            refine (op_any _ _).mono ?_
            rintro e wr ⟨rfl, rfl⟩
            go_wp2_with (first | (at_builtin; refine append_byte w5 wr _ _ 40 _ rfl (.tmp 155) (.tmp 156) rfl rfl hown rfl rfl (by omega) ?_; intro v1 wx1 h1; have hnj : wx1.cell? ⟨w.heap.size, j, none⟩ = some (.string (S j)) := by simpa using (G5.below (h1.2.mono hw52)).names j (by omega)) | (at_builtin; refine append_str w5 wx1 _ _ _ rfl (.tmp 158) (.tmp 162) rfl h1 rfl rfl (by simp only [List.length_append, List.length_cons, List.length_nil]; omega) ?_; intro v2 wx2 h2) | (at_builtin; refine append_byte w5 wx2 _ _ 32 _ rfl (.tmp 164) (.tmp 165) rfl rfl h2 rfl rfl (by simp only [List.length_append, List.length_cons, List.length_nil]; omega) ?_; intro v3 wx3 h3) | (at_builtin; refine append_str w5 wx3 _ _ _ rfl (.tmp 167) (.tmp 168) rfl h3 rfl rfl (by simp only [List.length_append, List.length_cons, List.length_nil]; omega) ?_; intro v4 wx4 h4) | (at_builtin; refine append_byte w5 wx4 _ _ 32 _ rfl (.tmp 170) (.tmp 171) rfl rfl h4 rfl rfl (by simp only [List.length_append, List.length_cons, List.length_nil]; omega) ?_; intro v5 wx5 h5))
            go_roundw
            case rel => exact ⟨j + 1, by omega, by go_num, by rw [HL.out]; exact h5⟩
            case measure => simp [intOf]; omega
          · have e : j = k - 1 := by omega
            subst e
            have hnl : wr.cell? ⟨w.heap.size, k - 1, none⟩ = some (.string (S (k - 1))) := by simpa using (G5.below (hown.2.mono hw52)).names (k - 1) (by omega)
            have hj1 : ¬ ((k - 1 : Nat) : Int) < (k : Int) - 1 := by omega
            have hj2 : (0 : Int) ≤ (k : Int) - 1 := by omega
            have hs0 := ht (k - 1) (by omega)
            go_wp2_with (at_builtin; refine append_str w5 wr _ _ (S (k - 1)) rfl (.tmp 173) (.tmp 178) rfl hown rfl rfl (by omega) ?_; intro v1 wx h1)
            go_loopw [12, 20] (fun v i wr => ∃ j : Nat, j ≤ k - 1 ∧ i = .int .i64 j ∧ Own w5 wr v (rightForm k (fun j => bl (S j)) (fun j => bl (strOf (Z j))) j)) (fun _ i _ => k - (intOf i).toNat)
            case atStart => exact ⟨0, Nat.zero_le _, rfl, by simpa [rightForm] using h1⟩
            case round =>
              clear h1 hnl hs0 hj1 hj2 hown hlen
              obtain ⟨j, hj, rfl, hown⟩ := hrel
              have hlen := rightForm_len _ _ k hk2 (by omega) HSl.out HOl.out j (by omega)
              by_cases hlt4 : j < k - 1
              · have HL : Hid (rightForm k (fun j => bl (S j)) (fun j => bl (strOf (Z j))) (j + 1) = rightForm k (fun j => bl (S j)) (fun j => bl (strOf (Z j))) j ++ [41]) := by simp [Hid, rightForm, List.replicate_succ', List.append_assoc]
                have hj1 : (j : Int) < (k : Int) - 1 := by omega
                generalize rightForm k (fun j => bl (S j)) (fun j => bl (strOf (Z j))) j = L at *
                go_wp2_with (at_builtin; refine append_byte w5 wr _ _ 41 _ rfl (.tmp 186) (.tmp 187) rfl rfl hown rfl rfl (by omega) ?_; intro v1 wx h1)
                go_roundw
                case rel => exact ⟨j + 1, by omega, by go_num, by rw [HL.out]; exact h1⟩
                case measure => simp [intOf]; omega
              · have e : j = k - 1 := by omega
                subst e
                have hpos : 0 < (rightForm k (fun j => bl (S j)) (fun j => bl (strOf (Z j))) (k - 1)).length := by simp only [rightForm, List.length_append, List.length_replicate]; omega
                generalize rightForm k (fun j => bl (S j)) (fun j => bl (strOf (Z j))) (k - 1) = L at *
                obtain ⟨g, cap, rfl, hconv⟩ := hown.text hpos
                have hj2 : ¬ ((k - 1 : Nat) : Int) < (k : Int) - 1 := by omega
                go_wp2_with fail
                go_ret
                exact ⟨by simp, below_step hbw hown.2⟩
end Go.Proofs.YoedawDoor
