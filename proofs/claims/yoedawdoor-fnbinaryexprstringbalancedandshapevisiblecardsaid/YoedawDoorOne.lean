import Derived.Test.YoedawDoorGroup
namespace Go.Proofs.YoedawDoor
open Go.ChangeShapes Go.WideShapes Go.ChangeAt Go.RowKit

theorem take_snoc (s : ByteArray) (k : Nat) (h : k < s.size) : (bl s).take (k + 1) = (bl s).take k ++ [s[k]] := by
  unfold bl
  rw [List.take_succ_eq_append_getElem (by simpa using h)]
  rfl

/-- What one byte does to the depth. -/
theorem dep_snoc (l : List UInt8) (c : UInt8) : (((c.toNat : Int) == 40) = true → dep (l ++ [c]) = dep l + 1 ∧ ((l ++ [c]).count 40 : Int) = l.count 40 + 1) ∧
    (((c.toNat : Int) == 40) = false → ((c.toNat : Int) == 41) = true → dep (l ++ [c]) = dep l - 1 ∧ ((l ++ [c]).count 40 : Int) = l.count 40) ∧
    (((c.toNat : Int) == 40) = false → ((c.toNat : Int) == 41) = false → dep (l ++ [c]) = dep l ∧ ((l ++ [c]).count 40 : Int) = l.count 40) := by
  have key : ∀ z : UInt8, ((c.toNat : Int) == (z.toNat : Int)) = (c == z) := by
    intro z
    rw [Bool.eq_iff_iff]
    simp
    constructor
    · intro h
      exact UInt8.toNat_inj.1 (by omega)
    · intro h
      rw [h]
  have k40 : ((c.toNat : Int) == 40) = (c == 40) := key 40
  have k41 : ((c.toNat : Int) == 41) = (c == 41) := key 41
  rw [k40, k41, dep_append]
  refine ⟨fun h => ?_, fun h h' => ?_, fun h h' => ?_⟩
  · have : c = 40 := by simpa using h
    subst this
    simp only [List.count_append]
    have h1 : dep [40] = 1 := by decide
    have h2 : List.count (40 : UInt8) [40] = 1 := by decide
    omega
  · have : c = 41 := by simpa using h'
    subst this
    simp only [List.count_append]
    have h1 : dep [41] = -1 := by decide
    have h2 : List.count (40 : UInt8) [41] = 0 := by decide
    omega
  · have hf : Free [c] := ⟨by simpa using (fun e => by simp [e] at h), by simpa using (fun e => by simp [e] at h')⟩
    have h1 := hf.dep
    simp only [List.count_append]
    omega

set_option maxRecDepth 100000 in
set_option maxHeartbeats 2000000 in
/-- 'zzOneGroup' at one group. -/
theorem oneGroup_any (s : ByteArray) (p : Int) (q : Nat) (w : World) (hs : s.size ≤ 1099511627776) (hpq : p = (q : Int)) (hg : Group (bl s) q) :
    Calls Edag.prog 12 #[.string s, .int .i64 p] w fun e w' => e = .returned (.bool true) ∧ w' = w := by
  obtain ⟨g1, g2, g3, g4, g5, g6⟩ := hg
  rw [bl_length] at g1 g3 g4
  have hl : (bl s).length = s.size := bl_length s
  have c0 : (s[0].toNat : Int) = 40 := by
    have : (bl s)[0]? = some s[0] := by unfold bl; rw [Array.getElem?_toList]; exact Array.getElem?_eq_getElem (by simpa using (by omega : 0 < s.size))
    rw [this] at g2
    simp at g2
    rw [g2]
    rfl
  have c1 : (s[s.size - 1].toNat : Int) = 41 := by
    have : (bl s)[s.size - 1]? = some s[s.size - 1] := by unfold bl; rw [Array.getElem?_toList]; exact Array.getElem?_eq_getElem (by simpa using (by omega : s.size - 1 < s.size))
    rw [this] at g3
    simp at g3
    rw [g3]
    rfl
  have hlast : ∀ j (hj : j < s.size), j = s.size - 1 → (s[j].toNat : Int) = 41 := by
    intro j hj e
    subst e
    exact c1
  have hfull : (bl s).take s.size = bl s := by rw [List.take_of_length_le (by omega)]
  have g2' : (2 : Int) ≤ (s.size : Int) := by omega
  have HLA := hid_of hlast
  have HF := hid_of hfull
  have G4 := hid_of g4
  have G5 := hid_of g5
  have G6 := hid_of g6
  have HPQ := hid_of hpq
  clear hlast hfull g4 g5 g6 g2 g3 hpq
  go_enter Edag.func12, Edag.ntmps12
  go_wp2
  go_loop [5, 6, 7] (fun d o i => ∃ (k : Nat) (dz oz : Int), k ≤ s.size ∧ i = .int .i64 k ∧ d = .int .i64 dz ∧ o = .int .i64 oz ∧ dz = dep ((bl s).take k) ∧ oz = ((((bl s).take k).count 40 : Nat) : Int)) (fun _ _ i => s.size - (intOf i).toNat)
  case atStart => exact ⟨0, 0, 0, Nat.zero_le _, rfl, rfl, rfl, by simp [dep], by simp⟩
  case round =>
    clear c0 c1
    obtain ⟨k, dz, oz, hk, rfl, rfl, rfl, hdz, hoz⟩ := hrel
    by_cases hlt : k < s.size
    · have hts := take_snoc s k hlt
      have sn := dep_snoc ((bl s).take k) s[k]
      rw [← hts, ← hdz, ← hoz] at sn
      have bd := dep_le ((bl s).take k)
      rw [← hdz, ← hoz] at bd
      have hlk : ((bl s).take k).length ≤ k := List.length_take_le _ _
      have hoz0 : 0 ≤ oz := by rw [hoz]; omega
      have bd1 : -(k : Int) ≤ dz := by omega
      have bd2 : dz ≤ (k : Int) := by omega
      have bd3 : oz ≤ (k : Int) := by omega
      clear hts hdz hoz bd hlk
      have g4k := G4.out (k + 1) (by omega)
      have g5k := G5.out
      rw [← HF.out] at g5k
      have hl41 := HLA.out k hlt
      by_cases hmore : k + 1 < s.size
      · have hpos := g4k hmore
        clear g4k g5k hl41
        by_cases h40 : ((s[k].toNat : Int) == 40) = true
        · obtain ⟨s1, s2⟩ := sn.1 h40
          have SN := hid_of (And.intro s1 s2)
          rw [s1] at hpos
          clear sn s1 s2
          go_wp2_with fail
          go_round
          case rel => exact ⟨k + 1, _, _, by omega, by go_num, rfl, rfl, SN.out.1.symm, SN.out.2.symm⟩
          case measure => simp [intOf]; omega
        · have h40' : ((s[k].toNat : Int) == 40) = false := by simpa using h40
          clear h40
          by_cases h41 : ((s[k].toNat : Int) == 41) = true
          · obtain ⟨s1, s2⟩ := sn.2.1 h40' h41
            have SN := hid_of (And.intro s1 s2)
            rw [s1] at hpos
            clear sn s1 s2
            go_wp2_with fail
            go_round
            case rel => exact ⟨k + 1, _, _, by omega, by go_num, rfl, rfl, SN.out.1.symm, SN.out.2.symm⟩
            case measure => simp [intOf]; omega
          · have h41' : ((s[k].toNat : Int) == 41) = false := by simpa using h41
            clear h41
            obtain ⟨s1, s2⟩ := sn.2.2 h40' h41'
            have SN := hid_of (And.intro s1 s2)
            rw [s1] at hpos
            clear sn s1 s2
            go_wp2_with fail
            go_round
            case rel => exact ⟨k + 1, _, _, by omega, by go_num, rfl, rfl, SN.out.1.symm, SN.out.2.symm⟩
            case measure => simp [intOf]; omega
      · have e41 := hl41 (by omega)
        have h40' : ((s[k].toNat : Int) == 40) = false := by rw [e41]; rfl
        have h41 : ((s[k].toNat : Int) == 41) = true := by rw [e41]; rfl
        obtain ⟨s1, s2⟩ := sn.2.1 h40' h41
        have SN := hid_of (And.intro s1 s2)
        rw [show s.size = k + 1 from by omega, s1] at g5k
        have d1 : dz ≤ 1 := by omega
        have d2 : 1 ≤ dz := by omega
        have k1 : (s.size : Int) - 1 ≤ (k : Int) := by omega
        have k2 : (k : Int) ≤ (s.size : Int) - 1 := by omega
        clear sn s1 s2 e41 hl41 g4k g5k
        go_wp2_with fail
        go_round
        case rel => exact ⟨k + 1, _, _, by omega, by go_num, rfl, rfl, (by have := SN.out.1; omega), SN.out.2.symm⟩
        case measure => simp [intOf]; omega
    · have e : k = s.size := by omega
      subst e
      rw [HF.out, G5.out] at hdz
      rw [HF.out, G6.out] at hoz
      subst hdz hoz
      have hp := HPQ.out
      subst hp
      go_wp2_with fail
      go_ret
      exact ⟨by simp, rfl⟩
end Go.Proofs.YoedawDoor
