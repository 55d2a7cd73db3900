import Derived.Test.YoedawPosEnd
namespace Go.Proofs.Yoedaw
open Go.ChangeShapes Go.WideShapes Go.ChangeAt Go.RowKit
set_option linter.unusedVariables false

set_option maxRecDepth 100000 in
set_option maxHeartbeats 4000000 in
theorem posEnd_right (a0 a1 a2 : Option Addr) (n c0 l1 c1 l2 c2 : Nat) (S : Nat → ByteArray) (P Z : Nat → Int) (w : World) (hl0 : n ≤ maxLen) (hl1 : l1 ≤ maxLen) (hl2 : l2 ≤ maxLen)
    (hS : ∀ k, k < n → (S k).size ≤ maxLen) (h0 : StrRow w a0 n S) (h1 : IntRow w a1 l1 P) (h2 : IntRow w a2 l2 Z) :
    Calls Edag.prog 3 #[.slice a0 n c0, .slice a1 l1 c1, .slice a2 l2 c2, .bool true] w fun e w' => e = .returned (.bool true) ∧ Below w.heap.size w w' := by
  unfold maxLen at hl0 hl1 hl2 hS
  go_enter Edag.func3, Edag.ntmps3
  go_wp2_with fail
  refine (bytes5_any a0 a1 a2 n c0 l1 c1 l2 c2 true S w hl0 hl1 hl2 hS h0).mono ?_
  rintro e w ⟨⟨q, rfl⟩, rfl⟩
  cases q with
  | false =>
    go_wp2_with fail
    go_ret
    exact ⟨rfl, Below.refl _ _⟩
  | true =>
    by_cases hbig : n ≤ 4096 ∧ l1 ≤ 4096 ∧ l2 ≤ 4096
    case neg =>
      have hb3 : 4096 < n ∨ (n ≤ 4096 ∧ 4096 < l1) ∨ (n ≤ 4096 ∧ l1 ≤ 4096 ∧ 4096 < l2) := by omega
      clear hbig
      rcases hb3 with h | ⟨h, h'⟩ | ⟨h, h', h''⟩
      all_goals
        go_wp2_with fail
        go_ret
        exact ⟨rfl, Below.refl _ _⟩
    obtain ⟨hn4, hl14, hl24⟩ := hbig
    clear hl0 hl1 hl2
    go_wp2_with fail
    go_loop [9, 10] (fun t i => ∃ (k : Nat) (z : Int), k ≤ n ∧ i = .int .i64 k ∧ t = .int .i64 z ∧ 0 ≤ z ∧ z ≤ 98304 + 1048576 * k ∧ ∀ j, j < k → ((S j).size : Int) ≤ 1048576) (fun _ i => n - (intOf i).toNat)
    case atStart => exact ⟨0, _, Nat.zero_le _, rfl, rfl, by omega, by omega, fun j hj => by omega⟩
    case round =>
      obtain ⟨k, z, hk, rfl, rfl, hz0, hz, hsm⟩ := hrel
      by_cases hlt : k < n
      · obtain ⟨b, off, rfl, _, hcc⟩ := h0 (by omega)
        have hck := hcc k hlt
        have hs := hS k hlt
        have HSM : Hid (∀ j, j < k → ((S j).size : Int) ≤ 1048576) := hsm
        clear h0 h1 h2 hS hcc hsm
        by_cases hsk : ((S k).size : Int) ≤ 1048576
        · go_wp2_with fail
          go_round
          case rel =>
            refine ⟨k + 1, _, by omega, by go_num, rfl, by omega, by omega, fun j hj => ?_⟩
            by_cases e : j = k
            · subst e; exact hsk
            · exact HSM.out j (by omega)
          case measure => simp [intOf]; omega
        · go_wp2_with fail
          go_ret
          exact ⟨rfl, Below.refl _ _⟩
      · have e : k = n := by omega
        subst e
        have HSM : Hid (∀ j, j < k → ((S j).size : Int) ≤ 1048576) := hsm
        clear hsm hS
        by_cases hmin : 2 ≤ k ∧ k ≤ l1 ∧ k - 1 ≤ l2 ∧ z ≤ 1048576
        case neg =>
          clear h0 h1 h2
          by_cases hz1 : z ≤ 1048576
          · have hb3 : k < 2 ∨ (2 ≤ k ∧ l1 < k) ∨ (2 ≤ k ∧ k ≤ l1 ∧ l2 < k - 1) := by omega
            clear hmin
            rcases hb3 with h | ⟨h, h'⟩ | ⟨h, h', h''⟩
            all_goals
              go_wp2_with fail
              go_ret
              exact ⟨rfl, Below.refl _ _⟩
          · clear hmin
            go_wp2_with fail
            go_ret
            exact ⟨rfl, Below.refl _ _⟩
        obtain ⟨hk2, hkl1, hkl2, hz1⟩ := hmin
        obtain ⟨pb, po, rfl, hpb, hpc⟩ := h1 (by omega)
        go_wp2_with fail
        go_loop [12] (fun i => ∃ m : Nat, m ≤ k ∧ i = .int .i64 m ∧ ∀ j, j < m → 0 ≤ P j ∧ P j ≤ 1073741824) (fun i => k - (intOf i).toNat)
        case atStart => exact ⟨0, Nat.zero_le _, rfl, fun j hj => by omega⟩
        case round =>
          obtain ⟨m, hm, rfl, hpm⟩ := hrel
          have HPM : Hid (∀ j, j < m → 0 ≤ P j ∧ P j ≤ 1073741824) := hpm
          clear hpm
          by_cases hlt2 : m < k
          · have hck := hpc m (by omega)
            clear h0 h1 h2 hpc
            by_cases hp0 : 0 ≤ P m
            · by_cases hp1 : P m ≤ 1073741824
              · go_wp2_with fail
                go_round
                case rel =>
                  refine ⟨m + 1, by omega, by go_num, fun j hj => ?_⟩
                  by_cases e : j = m
                  · subst e; exact ⟨hp0, hp1⟩
                  · exact HPM.out j (by omega)
                case measure => simp [intOf]; omega
              · go_wp2_with fail
                go_ret
                exact ⟨rfl, Below.refl _ _⟩
            · go_wp2_with fail
              go_ret
              exact ⟨rfl, Below.refl _ _⟩
          · have e : m = k := by omega
            subst e
            obtain ⟨nb, no, rfl, hnb, hnc⟩ := h0 (by omega)
            obtain ⟨ob, oo, rfl, hob, hoc⟩ := h2 (by omega)
            have HNC : Hid _ := hnc
            have HOC : Hid _ := hoc
            have HPC : Hid _ := hpc
            clear h0 h1 h2 hnc hoc hpc
            go_wp2_with fail
            refine (cloneStrings_any nb no m c0 S w (by omega) hnb HNC.out).mono ?_
            rintro e w1 ⟨rfl, hc1, hb1, hz1'⟩
            have HC1 : Hid _ := hc1
            have HZ1 : Hid _ := hz1'
            clear hc1 hz1'
            go_wp2_with fail
            refine (cloneInts_any pb po l1 c1 P w1 (by omega) (by have := hb1.size; omega) (fun k hk => (hb1.cell (by exact hpb)).trans (HPC.out k hk))).mono ?_
            rintro e w2 ⟨rfl, hc2, hb2, hz2'⟩
            have HC2 : Hid _ := hc2
            have HZ2 : Hid _ := hz2'
            clear hc2 hz2'
            go_wp2_with fail
            refine (cloneInts_any ob oo l2 c2 Z w2 (by omega) (by have := hb1.size; have := hb2.size; omega) (fun k hk => ((hb2.cell (by have := hb1.size; show ob < _; omega)).trans (hb1.cell (by exact hob))).trans (HOC.out k hk))).mono ?_
            rintro e w3 ⟨rfl, hc3, hb3, hz3'⟩
            have HC3 : Hid _ := hc3
            have HZ3 : Hid _ := hz3'
            clear hc3 hz3'
            go_wp2_with fail
            obtain ⟨G, hb⟩ := given_clones hb1 HZ1.out HC1.out hb2 HZ2.out HC2.out hb3 HZ3.out HC3.out
            refine (build_right w.heap.size 0 m w1.heap.size 0 l1 l1 w2.heap.size 0 l2 l2 m S P Z w3 (by omega) (by omega) (by omega) (by omega) G).mono ?_
            rintro e w4 ⟨rfl, hb4, hnodes⟩
            have G4 := G.below hb4
            have hbel : Below w.heap.size w w4 := hb.trans (hb4.mono (by have := hb.size; omega))
            have HND : Hid _ := hnodes
            have ht : Tiny m S P := fun j hj => ⟨(HPM.out j hj).1, (HPM.out j hj).2, HSM.out j hj⟩
            clear hb4 hb hb3 hb2 hb1 HZ1 HZ2 HZ3 HC1 HC2 HC3 HNC HOC HPC G hnodes HPM HSM
            have hcp : w4.cell? ⟨w1.heap.size, m - 1, none⟩ = some (.int .i64 (P (m - 1))) := by simpa using G4.poss (m - 1) (by omega)
            have hcn : w4.cell? ⟨w.heap.size, m - 1, none⟩ = some (.string (S (m - 1))) := by simpa using G4.names (m - 1) (by omega)
            have ht1 := ht (m - 1) (by omega)
            have hi1 : (m : Int) - 1 < (m : Int) := by omega
            have hi2 : (m : Int) - 1 < (l1 : Int) := by omega
            have hi0 : (0 : Int) ≤ (m : Int) - 1 := by omega
            go_wp2_with fail
            go_quiet (fail)
            go_wp2_with fail
            clear hcp hcn hi1 hi2 hi0 ht1
            go_loopw [15] (fun i wr => ∃ j nr : Nat, j ≤ m - 1 ∧ i = .int .i64 j ∧ wr = w4.drewN nr) (fun i _ => m - (intOf i).toNat)
            case atStart => exact ⟨0, nq, by omega, rfl, rfl⟩
            case round =>
              obtain ⟨j, nr, hj, rfl, rfl⟩ := hrel
              by_cases hlt3 : j < m - 1
              · obtain ⟨b, hcb, hch⟩ := HND.out j hlt3
                have hL : RightAt w4 w3.heap.size m S P Z j b := ⟨hch, hlt3⟩
                have hpj : w4.cell? ⟨w1.heap.size, m - 2 - j, none⟩ = some (.int .i64 (P (m - 2 - j))) := by simpa using G4.poss (m - 2 - j) (by omega)
                have ji1 : (0 : Int) ≤ (m : Int) - 2 - (j : Int) := by omega
                have ji2 : (m : Int) - 2 - (j : Int) < (l1 : Int) := by omega
                have ji3 : (j : Int) < ((m - 1 : Nat) : Int) := by omega
                clear hch HND
                go_wp2_with fail
                go_quiet ((go_at_call 9; exact quiet_add_same (pos_right (hL.keep (Keeps.drewN _ _)))))
                go_wp2_with fail
                refine (end_right ht (hL.keep (Keeps.drewN _ _))).mono ?_
                rintro e w' ⟨rfl, nx, rfl⟩
                go_wp2_with fail
                go_roundw
                case rel => exact ⟨j + 1, _, by omega, by go_num, rfl⟩
                case measure => simp [intOf]; omega
              · have e : j = m - 1 := by omega
                subst e
                go_wp2_with fail
                go_ret
                exact ⟨rfl, below_drewN hbel _⟩
end Go.Proofs.Yoedaw
