import Derived.Test.YoedawDoorOne
namespace Go.Proofs.YoedawDoor
open Go.ChangeShapes Go.WideShapes Go.ChangeAt Go.RowKit
set_option linter.unusedVariables false

theorem Given.mono {w : World} {N N' nb no ob oo n ol : Nat} {S : Nat → ByteArray} {Z : Nat → Int} (G : Given w N nb no ob oo n ol S Z) (h : N ≤ N') : Given w N' nb no ob oo n ol S Z :=
  ⟨Nat.lt_of_lt_of_le G.nbN h, Nat.lt_of_lt_of_le G.obN h, G.names, G.ops⟩

theorem free_snoc {s : ByteArray} {t : Nat} (h : t < s.size) (hf : Free ((bl s).take t)) (h40 : ((s[t].toNat : Int) == 40) = false) (h41 : ((s[t].toNat : Int) == 41) = false) : Free ((bl s).take (t + 1)) := by
  rw [take_snoc s t h]
  have n40 : s[t] ≠ 40 := by intro e; rw [e] at h40; exact absurd h40 (by decide)
  have n41 : s[t] ≠ 41 := by intro e; rw [e] at h41; exact absurd h41 (by decide)
  refine ⟨fun hm => ?_, fun hm => ?_⟩
  · rcases List.mem_append.1 hm with hm | hm
    · exact hf.1 hm
    · exact n40 (List.mem_singleton.1 hm).symm
  · rcases List.mem_append.1 hm with hm | hm
    · exact hf.2 hm
    · exact n41 (List.mem_singleton.1 hm).symm

theorem bl_mk (L : List UInt8) : bl ⟨L.toArray⟩ = L := by simp [bl]
theorem size_mk (L : List UInt8) : (ByteArray.mk L.toArray).size = L.length := by show L.toArray.size = _; simp

set_option maxRecDepth 100000 in
set_option maxHeartbeats 4000000 in
theorem bal_walk (a0 a1 : Option Addr) (n c0 l1 c1 : Nat) (S : Nat → ByteArray) (Z : Nat → Int) (w : World) (htk : Toks w) (hl0 : n ≤ maxLen) (hl1 : l1 ≤ maxLen)
    (hS : ∀ k, k < n → (S k).size ≤ maxLen) (h0 : StrRow w a0 n S) (h1 : IntRow w a1 l1 Z) :
    Calls Edag.prog 4 #[.slice a0 n c0, .slice a1 l1 c1] w fun e w' => e = .returned (.bool true) ∧ Below w.heap.size w w' := by
  unfold maxLen at hl0 hl1 hS
  go_enter Edag.func4, Edag.ntmps4
  go_wp2_with fail
  refine (bytes11_any a0 a1 n c0 l1 c1 S w hl0 hl1 hS h0).mono ?_
  rintro e w ⟨⟨q, rfl⟩, rfl⟩
  cases q with
  | false =>
    go_wp2_with fail
    go_ret
    exact ⟨rfl, Below.refl _ _⟩
  | true =>
    by_cases hbig : n ≤ 256 ∧ l1 ≤ 4096
    case neg =>
      have hb3 : 256 < n ∨ (n ≤ 256 ∧ 4096 < l1) := by omega
      clear hbig
      rcases hb3 with h | ⟨h, h'⟩
      all_goals
        go_wp2_with fail
        go_ret
        exact ⟨rfl, Below.refl _ _⟩
    obtain ⟨hn4, hl14⟩ := hbig
    clear hl0 hl1
    go_wp2_with fail
    go_loop [5, 6] (fun t i => ∃ (k : Nat) (z : Int), k ≤ n ∧ i = .int .i64 k ∧ t = .int .i64 z ∧ 0 ≤ z ∧ z ≤ 1048576 * k ∧ ∀ j, j < k → ((S j).size : Int) ≤ 1048576) (fun _ i => n - (intOf i).toNat)
    case atStart => exact ⟨0, _, Nat.zero_le _, rfl, rfl, by omega, by omega, fun j hj => by omega⟩
    case round =>
      obtain ⟨k, z, hk, rfl, rfl, hz0, hz, hsm⟩ := hrel
      by_cases hlt : k < n
      · obtain ⟨b, off, rfl, _, hcc⟩ := h0 (by omega)
        have hck := hcc k hlt
        have hs := hS k hlt
        have HSM : Hid (∀ j, j < k → ((S j).size : Int) ≤ 1048576) := hsm
        clear h0 h1 hS hcc hsm htk
        by_cases hsk : ((S k).size : Int) ≤ 1048576
        · go_wp2_with fail
          go_round
          case rel =>
            refine ⟨k + 1, _, by omega, by go_num, rfl, by omega, by omega, fun j hj => ?_⟩
            by_cases e : j = k
            · subst e; exact hsk
            · exact HSM.out j (by omega)
          case measure => simp [intOf]; omega
        · go_wp2_with fail
          go_ret
          exact ⟨rfl, Below.refl _ _⟩
      · have e : k = n := by omega
        subst e
        have ht : Tiny k S := hsm
        clear hsm hS
        by_cases hmin : z ≤ 65536 ∧ 2 ≤ k ∧ k - 1 ≤ l1
        case neg =>
          clear h0 h1 htk
          by_cases hz1 : z ≤ 65536
          · have hb3 : k < 2 ∨ (2 ≤ k ∧ l1 < k - 1) := by omega
            clear hmin
            rcases hb3 with h | ⟨h, h'⟩
            all_goals
              go_wp2_with fail
              go_ret
              exact ⟨rfl, Below.refl _ _⟩
          · clear hmin
            go_wp2_with fail
            go_ret
            exact ⟨rfl, Below.refl _ _⟩
        obtain ⟨hz1, hk2, hkl1⟩ := hmin
        obtain ⟨nb, no, rfl, hnb, hnc⟩ := h0 (by omega)
        obtain ⟨ob, oo, rfl, hob, hoc⟩ := h1 (by omega)
        have HNC := hid_of hnc
        have HOC := hid_of hoc
        clear h0 h1 hnc hoc
        go_wp2_with fail
        go_loop [8] (fun i => ∃ q : Nat, q ≤ k ∧ i = .int .i64 q ∧ ∀ j, j < q → Free (bl (S j))) (fun i => k - (intOf i).toNat)
        case atStart => exact ⟨0, Nat.zero_le _, rfl, fun j hj => by omega⟩
        case round =>
          obtain ⟨q, hq, rfl, hfr⟩ := hrel
          have HFR := hid_of hfr
          clear hfr
          by_cases hlt2 : q < k
          · have hck := HNC.out q hlt2
            have hsz := ht q hlt2
            clear HNC HOC htk
            obtain ⟨s, hs⟩ : ∃ s, s = S q := ⟨_, rfl⟩
            rw [← hs] at hck hsz
            have HS := hid_of hs
            clear hs
            go_wp2_with fail
            go_loop [10] (fun i => ∃ t : Nat, t ≤ s.size ∧ i = .int .i64 t ∧ Free ((bl s).take t)) (fun i => s.size - (intOf i).toNat)
            case atStart => exact ⟨0, Nat.zero_le _, rfl, by constructor <;> simp⟩
            case round =>
              obtain ⟨t, htq, rfl, hft⟩ := hrel
              have HFT := hid_of hft
              clear hft
              by_cases hlt3 : t < s.size
              · by_cases h40 : ((s[t].toNat : Int) == 40) = true
                · go_wp2_with fail
                  go_ret
                  exact ⟨rfl, Below.refl _ _⟩
                · have h40' : ((s[t].toNat : Int) == 40) = false := by simpa using h40
                  clear h40
                  by_cases h41 : ((s[t].toNat : Int) == 41) = true
                  · go_wp2_with fail
                    go_ret
                    exact ⟨rfl, Below.refl _ _⟩
                  · have h41' : ((s[t].toNat : Int) == 41) = false := by simpa using h41
                    clear h41
                    go_wp2_with fail
                    go_round
                    case rel => exact ⟨t + 1, by omega, by go_num, free_snoc hlt3 HFT.out h40' h41'⟩
                    case measure => simp [intOf]; omega
              · have e : t = s.size := by omega
                subst e
                go_wp2_with fail
                go_round
                case rel =>
                  refine ⟨q + 1, by omega, by go_num, fun j hj => ?_⟩
                  by_cases e : j = q
                  · subst e
                    have := HFT.out
                    rw [List.take_of_length_le (by rw [bl_length]; omega), HS.out] at this
                    exact this
                  · exact HFR.out j (by omega)
                case measure => simp [intOf]; omega
          · have e : q = k := by omega
            subst e
            go_wp2_with fail
            refine (cloneStrings_any nb no q c0 S w (by omega) hnb HNC.out).mono ?_
            rintro e w1 ⟨rfl, hc1, hb1, hz1'⟩
            have HC1 := hid_of hc1
            have HZ1 := hid_of hz1'
            clear hc1 hz1'
            go_wp2_with fail
            refine (cloneInts_any ob oo l1 c1 Z w1 (by omega) (by have := hb1.size; omega) (fun k hk => (hb1.cell (by exact hob)).trans (HOC.out k hk))).mono ?_
            rintro e w2 ⟨rfl, hc2, hb2, hz2'⟩
            have HC2 := hid_of hc2
            have HZ2 := hid_of hz2'
            clear hc2 hz2'
            obtain ⟨G, hb⟩ := given_clones hb1 HZ1.out HC1.out hb2 HZ2.out HC2.out
            clear hb1 hb2 HZ1 HZ2 HC1 HC2 HNC HOC
            go_wp2_with fail
            refine (build_left w.heap.size 0 q w1.heap.size 0 l1 l1 q S Z w2 (by omega) (by omega) (by omega) G).mono ?_
            rintro e w4 ⟨rfl, hb4, hnodes⟩
            have hbw4 : Below w.heap.size w w4 := below_step hb hb4
            have G4 := (G.below hb4).mono hb4.size
            obtain ⟨rb, hrb, hch⟩ := hnodes (q - 1 - 1) (by omega)
            have HCH := hid_of hch
            clear hnodes hch hb4 hb G
            go_wp2_with fail
            refine (build_right w.heap.size 0 q w1.heap.size 0 l1 l1 q S Z w4 (by omega) (by omega) (by omega) G4).mono ?_
            rintro e w6 ⟨rfl, hb6, hnodes⟩
            have hbw6 : Below w.heap.size w w6 := below_step hbw4 hb6
            obtain ⟨rb2, hrb2, hch2⟩ := hnodes (q - 1 - 1) (by omega)
            have hrb' := cell_later hb6 hrb
            have htk6 := htk.below hbw6
            have HL := hid_of (root_left (Z := Z) hk2 (by omega) ht htk6 (ChB.keep (Keeps.below hb6) _ _ HCH.out))
            have HCH2 := hid_of hch2
            have gl := group_left q hk2 S Z HFR.out
            have gr := group_right q hk2 S Z HFR.out
            have hSl : ∀ j, j < q → (bl (S j)).length ≤ 1048576 := fun j hj => by have := ht j hj; rw [bl_length]; omega
            have hOl : ∀ j, (bl (strOf (Z j))).length ≤ 2 := fun j => by have := (strOf_size (Z j)).1; rw [bl_length]; omega
            have ll := lefts_len _ _ q hk2 (by omega) hSl hOl (q - 1) (by omega)
            have lr := rightForm_len _ _ q hk2 (by omega) hSl hOl (q - 1) (by omega)
            have hsh : q = 2 ∧ lefts q (fun j => bl (S j)) (fun j => bl (strOf (Z j))) (q - 1) = rightForm q (fun j => bl (S j)) (fun j => bl (strOf (Z j))) (q - 1) ∨ 3 ≤ q ∧ lefts q (fun j => bl (S j)) (fun j => bl (strOf (Z j))) (q - 1) ≠ rightForm q (fun j => bl (S j)) (fun j => bl (strOf (Z j))) (q - 1) := by
              by_cases e : q = 2
              · subst e; exact .inl ⟨rfl, shapes_two _ _⟩
              · exact .inr ⟨by omega, shapes_differ q (by omega) _ _ (HFR.out 0 (by omega))⟩
            have HRr := hid_of (fun (w7 : World) (h7 : Below w6.heap.size w6 w7) => root_right (g := w4.heap.size) (b := rb2) (Z := Z) (w := w7) hk2 (by omega) ht (htk6.below h7) (ChB.keep (Keeps.below h7) _ _ HCH2.out))
            clear hSl hOl hnodes hch2 hrb HCH HFR htk htk6 HCH2 G4 hbw4 hb6
            generalize lefts q (fun j => bl (S j)) (fun j => bl (strOf (Z j))) (q - 1) = L at *
            generalize rightForm q (fun j => bl (S j)) (fun j => bl (strOf (Z j))) (q - 1) = R at *
            have GL := hid_of gl
            have GR := hid_of gr
            have HSH := hid_of hsh
            clear gl gr hsh
            have hi0 : (0 : Int) ≤ ((q - 1 : Nat) : Int) - 1 := by omega
            go_wp2_with fail
            refine (HL.out).mono ?_
            rintro e w7 ⟨rfl, hb7⟩
            have hrb2' := cell_later hb7 hrb2
            go_wp2_with fail
            refine (HRr.out w7 hb7).mono ?_
            rintro e w8 ⟨rfl, hb8⟩
            have hbw8 : Below w.heap.size w w8 := below_step (below_step hbw6 hb7) hb8
            clear HL HRr hrb' hrb2 hrb2' hb7 hb8 hbw6 hi0
            go_wp2_with fail
            refine (oneGroup_any _ _ (q - 1) w8 (by rw [size_mk]; omega) (by omega) (by rw [bl_mk]; exact GL.out)).mono ?_
            rintro e w8 ⟨rfl, rfl⟩
            go_wp2_with fail
            refine (oneGroup_any _ _ (q - 1) w8 (by rw [size_mk]; omega) (by omega) (by rw [bl_mk]; exact GR.out)).mono ?_
            rintro e w8 ⟨rfl, rfl⟩
            rcases HSH.out with ⟨h2, he⟩ | ⟨h3, hne⟩
            · clear HSH GL GR
              subst he
              have hq2 : ((q : Int) == 2) = true := by rw [h2]; rfl
              clear h2
              go_wp2_with fail
              go_ret
              exact ⟨by simp, hbw8⟩
            · clear HSH GL GR
              have hq2 : ((q : Int) == 2) = false := by simp; omega
              have hLR : (L == R) = false := by simpa using hne
              clear hne
              go_wp2_with fail
              go_ret
              exact ⟨by simp, hbw8⟩
end Go.Proofs.YoedawDoor
