import Derived.Test.Qxb6600508aKit
import Derived.Test.Qxb6600508aParsePlain
namespace Go.Proofs.Qxb6600508a.Parse
open Go.ChangeShapes Go.WideShapes Go.ChangeAt Go.RowKit Kit Plain

set_option maxHeartbeats 1000000 in
/-- 'parseUnits' (26) of any short string. -/
theorem parse_any (s : ByteArray) (pl : Int) (w : World) (hs : s.size ≤ 100000) (hp0 : 0 ≤ pl) (hp1 : pl ≤ 2147483647) :
    Calls Try.prog 26 #[.string s, .int .i32 pl] w fun e w' => e = .returned (.tuple #[.int .i64 (pgo pl true 0 (-1) s.data.toList).1, .bool (pgo pl true 0 (-1) s.data.toList).2]) ∧ w' = w := by
  obtain ⟨R, hR⟩ : ∃ R, R = pgo pl true 0 (-1) s.data.toList := ⟨_, rfl⟩
  rw [← hR]
  have HR : Hid (R = pgo pl true 0 (-1) s.data.toList) := hR
  clear hR
  go_enter Try.func26, Try.ntmps26
  go_wp2
  go_loop [6, 7, 12] (fun x y i => ∃ (k : Nat) (u d : Int), k ≤ s.size ∧ 0 ≤ u ∧ u ≤ 999999999999999999 ∧ -1 ≤ d ∧ d ≤ k ∧ d ≤ pl ∧ i = .int .i64 k ∧ x = .int .i64 u ∧ y = .int .i32 d ∧ Hid (R = pgo pl (k == 0) u d (s.data.toList.drop k))) (fun _ _ i => s.size - (intOf i).toNat)
  case atStart => exact ⟨0, 0, -1, by omega, by omega, by omega, by omega, by omega, by omega, rfl, rfl, rfl, HR.out⟩
  case round =>
    obtain ⟨k, u, d, hk, hu0, hu1, hd0, hd1, hd2, rfl, rfl, rfl, hg⟩ := hrel
    by_cases hlt : k < s.size
    · have hc := hg.out
      rw [drop_cons s k hlt, pgo_cons] at hc
      have HC : Hid _ := hc
      clear hc hg
      by_cases c1 : (s[k].toNat : Int) = 46 ∧ d < 0 ∧ (k == 0) = false
      · have HD := HC.out
        rw [if_pos c1] at HD
        have HE : Hid _ := HD
        obtain ⟨c1, c2, c3⟩ := c1
        have c4 : 0 < k := by rw [beq_eq_false_iff_ne] at c3; omega
        have c5 : 46 ≤ (s[k].toNat : Int) := by omega
        have c6 : (s[k].toNat : Int) ≤ 46 := by omega
        clear HD HC c1 c3
        go_wp2
        go_round
        case rel => exact ⟨k + 1, u, 0, by omega, hu0, hu1, by omega, by omega, hp0, by go_num, rfl, rfl, HE.out⟩
        case measure => simp [intOf]; omega
      · by_cases c2 : (s[k].toNat : Int) < 48 ∨ 57 < (s[k].toNat : Int) ∨ d = pl
        · have HD := HC.out
          rw [if_neg c1, if_pos c2] at HD
          have HE : Hid _ := HD
          clear HD HC
          by_cases d1 : (s[k].toNat : Int) < 48
          · clear c2
            by_cases d2 : (s[k].toNat : Int) = 46
            · have d5 : 46 ≤ (s[k].toNat : Int) := by omega
              have d6 : (s[k].toNat : Int) ≤ 46 := by omega
              by_cases d3 : d < 0
              · have d4 : k = 0 := by
                  rcases Nat.eq_zero_or_pos k with e | e
                  · exact e
                  · exact absurd ⟨d2, d3, by rw [beq_eq_false_iff_ne]; omega⟩ c1
                clear c1 d2
                subst d4
                go_wp2
                go_ret2
                exact ⟨by rw [HE.out]; rfl, rfl⟩
              · clear c1 d2
                go_wp2
                go_ret2
                exact ⟨by rw [HE.out]; rfl, rfl⟩
            · clear c1
              have d7 : ((s[k].toNat : Int) == 46) = false := by rw [beq_eq_false_iff_ne]; exact d2
              clear d2
              go_wp2
              go_ret2
              exact ⟨by rw [HE.out]; rfl, rfl⟩
          · clear c1
            by_cases d2 : 57 < (s[k].toNat : Int)
            · clear c2
              go_wp2
              go_ret2
              exact ⟨by rw [HE.out]; rfl, rfl⟩
            · have d3 : d = pl := by omega
              clear c2
              subst d3
              go_wp2
              go_ret2
              exact ⟨by rw [HE.out]; rfl, rfl⟩
        · have d1 : 48 ≤ (s[k].toNat : Int) := by omega
          have d2 : (s[k].toNat : Int) ≤ 57 := by omega
          have d3 : (d == pl) = false := by rw [beq_eq_false_iff_ne]; omega
          have d4 : d < pl := by omega
          have HD := HC.out
          rw [if_neg c1, if_neg c2] at HD
          clear c1 c2 HC
          by_cases c3 : (999999999999999999 - ((s[k].toNat : Int) - 48)) / 10 < u
          · rw [if_pos c3] at HD
            have HE : Hid _ := HD
            clear HD
            go_wp2
            go_ret2
            exact ⟨by rw [HE.out]; rfl, rfl⟩
          · rw [if_neg c3] at HD
            by_cases c4 : 0 ≤ d
            · rw [if_pos c4] at HD
              have HE : Hid _ := HD
              clear HD
              go_wp2
              go_round
              case rel => exact ⟨k + 1, _, _, by omega, by omega, by omega, by omega, by omega, by omega, by go_num, rfl, rfl, HE.out⟩
              case measure => simp [intOf]; omega
            · rw [if_neg c4] at HD
              have HE : Hid _ := HD
              clear HD
              go_wp2
              go_round
              case rel => exact ⟨k + 1, _, _, by omega, by omega, by omega, by omega, by omega, by omega, by go_num, rfl, rfl, HE.out⟩
              case measure => simp [intOf]; omega
    · have HF0 := hg.out
      rw [drop_all s k (by omega), pgo_nil] at HF0
      unfold pfin at HF0
      by_cases c1 : d = 0 ∨ u = 0
      · rw [if_pos c1] at HF0
        have HE : Hid _ := HF0
        clear HF0
        by_cases c2 : d = 0
        · clear c1
          subst c2
          go_wp2
          go_ret2
          exact ⟨by rw [HE.out]; rfl, rfl⟩
        · have c3 : u = 0 := by omega
          have c4 : (d == 0) = false := by rw [beq_eq_false_iff_ne]; omega
          clear c1 c2
          subst c3
          go_wp2
          go_ret2
          exact ⟨by rw [HE.out]; rfl, rfl⟩
      · rw [if_neg c1] at HF0
        have e1 : 0 < u := by omega
        have e3 : (d == 0) = false := by rw [beq_eq_false_iff_ne]; omega
        have e4 : (u == 0) = false := by rw [beq_eq_false_iff_ne]; omega
        clear c1
        by_cases c2 : 0 < d
        · rw [show max d 0 = d by omega] at HF0
          have HF : Hid _ := HF0
          clear HF0
          go_wp2
          go_loop [6, 67] (fun x i => ∃ (j : Nat) (v : Int), (j : Int) ≤ pl - d ∧ 0 < v ∧ v ≤ 999999999999999999 ∧ i = .int .i32 j ∧ x = .int .i64 v ∧ Hid (R = pmul ((pl - d : Int).toNat - j) v)) (fun _ i => ((pl - d : Int) - intOf i).toNat)
          case atStart => exact ⟨0, u, by omega, e1, hu1, rfl, rfl, HF.out⟩
          case round =>
            obtain ⟨j, v, hj, hv0, hv1, rfl, rfl, hm⟩ := hrel
            by_cases hlt2 : (j : Int) < pl - d
            · by_cases ho : 99999999999999999 < v
              · have HO : Hid _ := pm_over hm.out hlt2 ho
                go_wp2
                go_ret2
                exact ⟨by rw [HO.out]; rfl, rfl⟩
              · have HO : Hid _ := pm_step hm.out hlt2 ho
                go_wp2
                go_round
                case rel => exact ⟨j + 1, v * 10, by omega, by omega, by omega, by go_num, rfl, HO.out⟩
                case measure => simp [intOf]; omega
            · have HO : Hid _ := pm_done hm.out hlt2
              go_wp2
              go_ret2
              exact ⟨by rw [HO.out]; rfl, rfl⟩
        · have e2 : d = -1 := by rw [beq_eq_false_iff_ne] at e3; omega
          clear e3
          subst e2
          rw [show pl - max (-1) 0 = pl by omega] at HF0
          have HF : Hid _ := HF0
          clear HF0
          go_wp2
          go_loop [6, 67] (fun x i => ∃ (j : Nat) (v : Int), (j : Int) ≤ pl ∧ 0 < v ∧ v ≤ 999999999999999999 ∧ i = .int .i32 j ∧ x = .int .i64 v ∧ Hid (R = pmul (pl.toNat - j) v)) (fun _ i => (pl - intOf i).toNat)
          case atStart => exact ⟨0, u, by omega, e1, hu1, rfl, rfl, HF.out⟩
          case round =>
            obtain ⟨j, v, hj, hv0, hv1, rfl, rfl, hm⟩ := hrel
            by_cases hlt2 : (j : Int) < pl
            · by_cases ho : 99999999999999999 < v
              · have HO : Hid _ := pm_over hm.out hlt2 ho
                go_wp2
                go_ret2
                exact ⟨by rw [HO.out]; rfl, rfl⟩
              · have HO : Hid _ := pm_step hm.out hlt2 ho
                go_wp2
                go_round
                case rel => exact ⟨j + 1, v * 10, by omega, by omega, by omega, by go_num, rfl, HO.out⟩
                case measure => simp [intOf]; omega
            · have HO : Hid _ := pm_done hm.out hlt2
              go_wp2
              go_ret2
              exact ⟨by rw [HO.out]; rfl, rfl⟩

/-- The same, the two answers named by the caller. -/
theorem parse_is (s : ByteArray) (pl : Int) (w : World) (hs : s.size ≤ 100000) (hp0 : 0 ≤ pl) (hp1 : pl ≤ 2147483647) (r : Int) (b : Bool) (hr : pgo pl true 0 (-1) s.data.toList = (r, b)) :
    Calls Try.prog 26 #[.string s, .int .i32 pl] w fun e w' => e = .returned (.tuple #[.int .i64 r, .bool b]) ∧ w' = w := by
  have HP := parse_any s pl w hs hp0 hp1
  rw [hr] at HP
  exact HP

set_option maxHeartbeats 400000 in
/-- 'ZZparseUnits' (18), the two answers named by the caller. -/
theorem zzparse_is (s : ByteArray) (pl : Int) (w : World) (hs : s.size ≤ 100000) (hp0 : 0 ≤ pl) (hp1 : pl ≤ 2147483647) (r : Int) (b : Bool) (hr : Hid (pgo pl true 0 (-1) s.data.toList = (r, b))) :
    Calls Try.prog 18 #[.string s, .int .i32 pl] w fun e w' => e = .returned (.tuple #[.int .i64 r, .bool b]) ∧ w' = w := by
  go_enter Try.func18, Try.ntmps18
  go_wp2_with (go_at_call 26; refine (parse_is s pl _ hs hp0 hp1 r b hr.out).mono ?_; rintro e w' ⟨rfl, rfl⟩)
  go_ret2
  exact ⟨rfl, rfl⟩

end Go.Proofs.Qxb6600508a.Parse
