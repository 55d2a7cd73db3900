import Derived.Test.YoedawOrder
namespace Go.Proofs.Yoedaw
open Go.ChangeShapes Go.WideShapes Go.ChangeAt Go.RowKit
set_option linter.unusedVariables false

set_option maxRecDepth 100000 in
set_option maxHeartbeats 4000000 in
theorem spans_right (a0 a1 a2 : Option Addr) (n c0 l1 c1 l2 c2 : Nat) (S : Nat → ByteArray) (P Z : Nat → Int) (w : World) (hl0 : n ≤ maxLen) (hl1 : l1 ≤ maxLen) (hl2 : l2 ≤ maxLen)
    (hS : ∀ k, k < n → (S k).size ≤ maxLen) (h0 : StrRow w a0 n S) (h1 : IntRow w a1 l1 P) (h2 : IntRow w a2 l2 Z) :
    Calls Edag.prog 4 #[.slice a0 n c0, .slice a1 l1 c1, .slice a2 l2 c2, .bool true] w fun e w' => e = .returned (.bool true) ∧ Below w.heap.size w w' := by
  unfold maxLen at hl0 hl1 hl2 hS
  go_enter Edag.func4, Edag.ntmps4
  go_wp2_with fail
  refine (bytes11_any a0 a1 a2 n c0 l1 c1 l2 c2 true S w hl0 hl1 hl2 hS h0).mono ?_
  rintro e w ⟨⟨q, rfl⟩, rfl⟩
  cases q with
  | false =>
    go_wp2_with fail
    go_ret
    exact ⟨rfl, Below.refl _ _⟩
  | true =>
    by_cases hbig : n ≤ 4096 ∧ l1 ≤ 4096 ∧ l2 ≤ 4096
    case neg =>
      have hb3 : 4096 < n ∨ (n ≤ 4096 ∧ 4096 < l1) ∨ (n ≤ 4096 ∧ l1 ≤ 4096 ∧ 4096 < l2) := by omega
      clear hbig
      rcases hb3 with h | ⟨h, h'⟩ | ⟨h, h', h''⟩
      all_goals
        go_wp2_with fail
        go_ret
        exact ⟨rfl, Below.refl _ _⟩
    obtain ⟨hn4, hl14, hl24⟩ := hbig
    clear hl0 hl1 hl2
    go_wp2_with fail
    go_loop [9, 10] (fun t i => ∃ (k : Nat) (z : Int), k ≤ n ∧ i = .int .i64 k ∧ t = .int .i64 z ∧ 0 ≤ z ∧ z ≤ 98304 + 1048576 * k ∧ ∀ j, j < k → ((S j).size : Int) ≤ 1048576) (fun _ i => n - (intOf i).toNat)
    case atStart => exact ⟨0, _, Nat.zero_le _, rfl, rfl, by omega, by omega, fun j hj => by omega⟩
    case round =>
      obtain ⟨k, z, hk, rfl, rfl, hz0, hz, hsm⟩ := hrel
      by_cases hlt : k < n
      · obtain ⟨b, off, rfl, _, hcc⟩ := h0 (by omega)
        have hck := hcc k hlt
        have hs := hS k hlt
        have HSM : Hid (∀ j, j < k → ((S j).size : Int) ≤ 1048576) := hsm
        clear h0 h1 h2 hS hcc hsm
        by_cases hsk : ((S k).size : Int) ≤ 1048576
        · go_wp2_with fail
          go_round
          case rel =>
            refine ⟨k + 1, _, by omega, by go_num, rfl, by omega, by omega, fun j hj => ?_⟩
            by_cases e : j = k
            · subst e; exact hsk
            · exact HSM.out j (by omega)
          case measure => simp [intOf]; omega
        · go_wp2_with fail
          go_ret
          exact ⟨rfl, Below.refl _ _⟩
      · have e : k = n := by omega
        subst e
        have HSM : Hid (∀ j, j < k → ((S j).size : Int) ≤ 1048576) := hsm
        clear hsm hS
        by_cases hmin : 2 ≤ k ∧ k ≤ l1 ∧ k - 1 ≤ l2 ∧ z ≤ 1048576
        case neg =>
          clear h0 h1 h2
          by_cases hz1 : z ≤ 1048576
          · have hb3 : k < 2 ∨ (2 ≤ k ∧ l1 < k) ∨ (2 ≤ k ∧ k ≤ l1 ∧ l2 < k - 1) := by omega
            clear hmin
            rcases hb3 with h | ⟨h, h'⟩ | ⟨h, h', h''⟩
            all_goals
              go_wp2_with fail
              go_ret
              exact ⟨rfl, Below.refl _ _⟩
          · clear hmin
            go_wp2_with fail
            go_ret
            exact ⟨rfl, Below.refl _ _⟩
        obtain ⟨hk2, hkl1, hkl2, hz1⟩ := hmin
        obtain ⟨pb, po, rfl, hpb, hpc⟩ := h1 (by omega)
        go_wp2_with fail
        go_loop [12] (fun i => ∃ m : Nat, m ≤ k ∧ i = .int .i64 m ∧ ∀ j, j < m → 0 ≤ P j ∧ P j ≤ 1073741824) (fun i => k - (intOf i).toNat)
        case atStart => exact ⟨0, Nat.zero_le _, rfl, fun j hj => by omega⟩
        case round =>
          obtain ⟨m, hm, rfl, hpm⟩ := hrel
          have HPM : Hid (∀ j, j < m → 0 ≤ P j ∧ P j ≤ 1073741824) := hpm
          clear hpm
          by_cases hlt2 : m < k
          · have hck := hpc m (by omega)
            clear h0 h1 h2 hpc
            by_cases hp0 : 0 ≤ P m
            · by_cases hp1 : P m ≤ 1073741824
              · go_wp2_with fail
                go_round
                case rel =>
                  refine ⟨m + 1, by omega, by go_num, fun j hj => ?_⟩
                  by_cases e : j = m
                  · subst e; exact ⟨hp0, hp1⟩
                  · exact HPM.out j (by omega)
                case measure => simp [intOf]; omega
              · go_wp2_with fail
                go_ret
                exact ⟨rfl, Below.refl _ _⟩
            · go_wp2_with fail
              go_ret
              exact ⟨rfl, Below.refl _ _⟩
          · have e : m = k := by omega
            subst e
            obtain ⟨nb, no, rfl, hnb, hnc⟩ := h0 (by omega)
            obtain ⟨ob, oo, rfl, hob, hoc⟩ := h2 (by omega)
            have HNC : Hid _ := hnc
            have HOC : Hid _ := hoc
            have HPC : Hid _ := hpc
            clear h0 h1 h2 hnc hoc hpc
            go_wp2_with fail
            go_loopw [13] (fun i wr => ∃ q : Nat, q ≤ m - 1 ∧ i = .int .i64 q ∧ Below w.heap.size w wr ∧ ∀ j, j < q → P j + (S j).size ≤ P (j + 1)) (fun i _ => m - (intOf i).toNat)
            case atStart => exact ⟨0, Nat.zero_le _, rfl, Below.refl _ _, fun j hj => by omega⟩
            case round =>
              obtain ⟨q, hq, rfl, hbr, hso⟩ := hrel
              have HSO : Hid (∀ j, j < q → P j + (S j).size ≤ P (j + 1)) := hso
              clear hso
              by_cases hlt3 : q + 1 < m
              · have hp0 : wr.cell? ⟨pb, po + q, none⟩ = some (.int .i64 (P q)) := (hbr.cell (by exact hpb)).trans (HPC.out q (by omega))
                have hp1 : wr.cell? ⟨pb, po + (q + 1), none⟩ = some (.int .i64 (P (q + 1))) := (hbr.cell (by exact hpb)).trans (HPC.out (q + 1) (by omega))
                have hn0 : wr.cell? ⟨nb, no + q, none⟩ = some (.string (S q)) := (hbr.cell (by exact hnb)).trans (HNC.out q (by omega))
                have b1 := (HPM.out q (by omega)).1
                have b2 := (HPM.out q (by omega)).2
                have b3 := HSM.out q (by omega)
                have ji1 : (q : Int) + 1 < (l1 : Int) := by omega
                have ji2 : (q : Int) < (l1 : Int) := by omega
                have ji3 : (q : Int) < (m : Int) := by omega
                clear HNC HOC HPC HPM HSM
                by_cases hle : P q + (S q).size ≤ P (q + 1)
                · go_wp2_with fail
                  go_quiet (fail)
                  go_wp2_with fail
                  go_roundw
                  case rel =>
                    refine ⟨q + 1, by omega, by go_num, below_drewN hbr _, fun j hj => ?_⟩
                    by_cases e : j = q
                    · subst e; exact hle
                    · exact HSO.out j (by omega)
                  case measure => simp [intOf]; omega
                · go_wp2_with fail
                  go_quiet (fail)
                  go_wp2_with fail
                  go_ret
                  exact ⟨rfl, below_drewN hbr _⟩
              · have e : q = m - 1 := by omega
                subst e
                have hsort : Sorted m S P := fun j hj => HSO.out j (by omega)
                have hwr := hbr.size
                clear HSO
                go_wp2_with fail
                refine (cloneStrings_any nb no m c0 S wr (by omega) (by omega) (fun k hk => (hbr.cell (by exact hnb)).trans (HNC.out k hk))).mono ?_
                rintro e w1 ⟨rfl, hc1, hb1, hz1'⟩
                have HC1 : Hid _ := hc1
                have HZ1 : Hid _ := hz1'
                clear hc1 hz1'
                go_wp2_with fail
                refine (cloneInts_any pb po l1 c1 P w1 (by omega) (by have := hb1.size; omega) (fun k hk => ((hb1.cell (by show pb < _; omega)).trans (hbr.cell (by exact hpb))).trans (HPC.out k hk))).mono ?_
                rintro e w2 ⟨rfl, hc2, hb2, hz2'⟩
                have HC2 : Hid _ := hc2
                have HZ2 : Hid _ := hz2'
                clear hc2 hz2'
                go_wp2_with fail
                refine (cloneInts_any ob oo l2 c2 Z w2 (by omega) (by have := hb1.size; have := hb2.size; omega) (fun k hk => (((hb2.cell (by have := hb1.size; show ob < _; omega)).trans (hb1.cell (by show ob < _; omega))).trans (hbr.cell (by exact hob))).trans (HOC.out k hk))).mono ?_
                rintro e w3 ⟨rfl, hc3, hb3, hz3'⟩
                have HC3 : Hid _ := hc3
                have HZ3 : Hid _ := hz3'
                clear hc3 hz3'
                go_wp2_with fail
                obtain ⟨G, hb⟩ := given_clones hb1 HZ1.out HC1.out hb2 HZ2.out HC2.out hb3 HZ3.out HC3.out
                refine (build_right wr.heap.size 0 m w1.heap.size 0 l1 l1 w2.heap.size 0 l2 l2 m S P Z w3 (by omega) (by omega) (by omega) (by omega) G).mono ?_
                rintro e w4 ⟨rfl, hb4, hnodes⟩
                have G4 := G.below hb4
                have hbel : Below w.heap.size w w4 := hbr.trans ((hb.trans (hb4.mono (by have := hb.size; omega))).mono hwr)
                have HND : Hid _ := hnodes
                have ht : Tiny m S P := fun j hj => ⟨(HPM.out j hj).1, (HPM.out j hj).2, HSM.out j hj⟩
                have hw43 : w3.heap.size ≤ w4.heap.size := hb4.size
                clear hb4 hb hb3 hb2 hb1 HZ1 HZ2 HZ3 HC1 HC2 HC3 HNC HOC HPC G hnodes HPM HSM
                obtain ⟨rb, hrb, hroot⟩ := HND.out (m - 1 - 1) (by omega)
                have hL : RightAt w4 w3.heap.size m S P Z (m - 1 - 1) rb := ⟨hroot, by omega⟩
                have hi0 : (0 : Int) ≤ ((m - 1 : Nat) : Int) - 1 := by omega
                clear hroot
                have hPos := pos_right hL
                have hEnd := end_right' ht hL
                rw [show m - 2 - (m - 1 - 1) = 0 from by omega] at hPos
                have HP : Hid (Calls Edag.prog 9 #[.pointer (some ⟨rb, 0, none⟩)] w4 fun e w' => e = .returned (.int .i64 (P 0)) ∧ w' = w4) := hPos
                have HE : Hid (Calls Edag.prog 10 #[.pointer (some ⟨rb, 0, none⟩)] w4 fun e w' => e = .returned (.int .i64 (P (m - 1) + (S (m - 1)).size)) ∧ Below w4.heap.size w4 w') := hEnd
                clear hPos hEnd hL
                go_wp2_with fail
                refine HP.out.mono ?_
                rintro e w4 ⟨rfl, rfl⟩
                go_wp2_with fail
                refine HE.out.mono ?_
                rintro e w5 ⟨rfl, hb5⟩
                go_wp2_with fail
                clear HP HE hrb hi0
                go_loopw [18] (fun i wq => ∃ j : Nat, j ≤ m - 1 ∧ i = .int .i64 j ∧ Below w4.heap.size w4 wq) (fun i _ => m - (intOf i).toNat)
                case atStart => exact ⟨0, by omega, rfl, hb5⟩
                case round =>
                  obtain ⟨j, hj, rfl, hbr'⟩ := hrel
                  by_cases hlt4 : j < m - 1
                  · obtain ⟨b, hcb, hch⟩ := HND.out j hlt4
                    have hLj : RightAt w4 w3.heap.size m S P Z j b := ⟨hch, hlt4⟩
                    have hcb' := cell_later hbr' hcb
                    have ji3 : (j : Int) < ((m - 1 : Nat) : Int) := by omega
                    have o0 := hsort.le (i := 0) (j := m - 2 - j) (by omega) (by omega)
                    have o2 := hsort.le (i := m - 2 - j) (j := m - 1) (by omega) (by omega)
                    have q1 : P (m - 2 - j) ≤ P (m - 1) + (S (m - 1)).size := by have := o2.1; omega
                    have q2 := o0.1
                    clear o0
                    clear hch hcb
                    by_cases hmore : j + 1 < m - 1
                    · have ji4 : (j : Int) + 1 < ((m - 1 : Nat) : Int) := by omega
                      have q3 := (hsort.le (i := m - 2 - (j + 1)) (j := m - 2 - j) (by omega) (by omega)).1
                      by_cases hj0 : ((j : Int) == 0) = true
                      · obtain ⟨b2, hcb2, hch2⟩ := HND.out (j + 1) hmore
                        have hL2 : RightAt w4 w3.heap.size m S P Z (j + 1) b2 := ⟨hch2, hmore⟩
                        clear hch2
                        go_wp2_with fail
                        refine (pos_right (hLj.keep (Keeps.below hbr'))).mono ?_
                        rintro e wq ⟨rfl, rfl⟩
                        go_wp2_with fail
                        refine (end_right' ht (hLj.keep (Keeps.below hbr'))).mono ?_
                        rintro e wa ⟨rfl, ha⟩
                        have hba := below_step hbr' ha
                        have hcb2a := cell_later hba hcb2
                        go_wp2_with fail
                        refine (pos_right (hL2.keep (Keeps.below hba))).mono ?_
                        rintro e wa ⟨rfl, rfl⟩
                        go_wp2_with fail
                        refine (end_right' ht (hL2.keep (Keeps.below hba))).mono ?_
                        rintro e wb ⟨rfl, hb⟩
                        have hbb := below_step hba hb
                        clear hcb2a
                        go_wp2_with fail
                        refine (leafIn_any m l1 _ _ _ (m - 2 - j) _ (G4.below (hbb.mono hw43)) (by omega) (by omega) (by omega) ht (Int.le_refl _) o2.2).mono ?_
                        rintro e wd ⟨rfl, hd⟩
                        have hbd := below_step hbb hd
                        go_wp2_with fail
                        refine (leafIn_any m l1 _ _ _ (m - 1) _ (G4.below (hbd.mono hw43)) (by omega) (by omega) (by omega) ht o2.1 (Int.le_refl _)).mono ?_
                        rintro e wd ⟨rfl, hd⟩
                        have hbd := below_step hbd hd
                        go_wp2_with fail
                        go_roundw
                        case rel => exact ⟨j + 1, by omega, by go_num, hbd⟩
                        case measure => simp [intOf]; omega
                      · have hj1 : ((j : Int) == 0) = false := by simpa using hj0
                        clear hj0
                        obtain ⟨b2, hcb2, hch2⟩ := HND.out (j + 1) hmore
                        have hL2 : RightAt w4 w3.heap.size m S P Z (j + 1) b2 := ⟨hch2, hmore⟩
                        clear hch2
                        go_wp2_with fail
                        refine (pos_right (hLj.keep (Keeps.below hbr'))).mono ?_
                        rintro e wq ⟨rfl, rfl⟩
                        go_wp2_with fail
                        refine (end_right' ht (hLj.keep (Keeps.below hbr'))).mono ?_
                        rintro e wa ⟨rfl, ha⟩
                        have hba := below_step hbr' ha
                        have hcb2a := cell_later hba hcb2
                        go_wp2_with fail
                        refine (pos_right (hL2.keep (Keeps.below hba))).mono ?_
                        rintro e wa ⟨rfl, rfl⟩
                        go_wp2_with fail
                        refine (end_right' ht (hL2.keep (Keeps.below hba))).mono ?_
                        rintro e wb ⟨rfl, hb⟩
                        have hbb := below_step hba hb
                        clear hcb2a
                        go_wp2_with fail
                        refine (leafIn_any m l1 _ _ _ (m - 2 - j) _ (G4.below (hbb.mono hw43)) (by omega) (by omega) (by omega) ht (Int.le_refl _) o2.2).mono ?_
                        rintro e wd ⟨rfl, hd⟩
                        have hbd := below_step hbb hd
                        go_wp2_with fail
                        go_roundw
                        case rel => exact ⟨j + 1, by omega, by go_num, hbd⟩
                        case measure => simp [intOf]; omega
                    · have ji4 : ¬ (j : Int) + 1 < ((m - 1 : Nat) : Int) := by omega
                      by_cases hj0 : ((j : Int) == 0) = true
                      · go_wp2_with fail
                        refine (pos_right (hLj.keep (Keeps.below hbr'))).mono ?_
                        rintro e wq ⟨rfl, rfl⟩
                        go_wp2_with fail
                        refine (end_right' ht (hLj.keep (Keeps.below hbr'))).mono ?_
                        rintro e wa ⟨rfl, ha⟩
                        have hba := below_step hbr' ha
                        go_wp2_with fail
                        refine (leafIn_any m l1 _ _ _ (m - 2 - j) _ (G4.below (hba.mono hw43)) (by omega) (by omega) (by omega) ht (Int.le_refl _) o2.2).mono ?_
                        rintro e wd ⟨rfl, hd⟩
                        have hbd := below_step hba hd
                        go_wp2_with fail
                        refine (leafIn_any m l1 _ _ _ (m - 1) _ (G4.below (hbd.mono hw43)) (by omega) (by omega) (by omega) ht o2.1 (Int.le_refl _)).mono ?_
                        rintro e wd ⟨rfl, hd⟩
                        have hbd := below_step hbd hd
                        go_wp2_with fail
                        go_roundw
                        case rel => exact ⟨j + 1, by omega, by go_num, hbd⟩
                        case measure => simp [intOf]; omega
                      · have hj1 : ((j : Int) == 0) = false := by simpa using hj0
                        clear hj0
                        go_wp2_with fail
                        refine (pos_right (hLj.keep (Keeps.below hbr'))).mono ?_
                        rintro e wq ⟨rfl, rfl⟩
                        go_wp2_with fail
                        refine (end_right' ht (hLj.keep (Keeps.below hbr'))).mono ?_
                        rintro e wa ⟨rfl, ha⟩
                        have hba := below_step hbr' ha
                        go_wp2_with fail
                        refine (leafIn_any m l1 _ _ _ (m - 2 - j) _ (G4.below (hba.mono hw43)) (by omega) (by omega) (by omega) ht (Int.le_refl _) o2.2).mono ?_
                        rintro e wd ⟨rfl, hd⟩
                        have hbd := below_step hba hd
                        go_wp2_with fail
                        go_roundw
                        case rel => exact ⟨j + 1, by omega, by go_num, hbd⟩
                        case measure => simp [intOf]; omega
                  · have e : j = m - 1 := by omega
                    subst e
                    go_wp2_with fail
                    go_ret
                    exact ⟨rfl, hbel.trans (hbr'.mono hbel.size)⟩
end Go.Proofs.Yoedaw
