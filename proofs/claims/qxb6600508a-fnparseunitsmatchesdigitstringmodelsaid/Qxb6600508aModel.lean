import Derived.Test.Qxb6600508aKit
import Derived.Test.Qxb6600508aAll
import Derived.Test.Qxb6600508aModelPlain
import Derived.Test.Qxb6600508aPlacePlain
import Derived.WalkSpells
import Derived.Deep.DeepCutAuto
namespace Go.Proofs.Qxb6600508a.Model
open Go.ChangeShapes Go.WideShapes Go.ChangeAt Go.RowKit Kit Plain

set_option maxHeartbeats 1000000 in
/-- 'modelUnits' (19), no point in the string. -/
theorem model_no (s : ByteArray) (pl : Int) (w : World) (hs : s.size ≤ 65536) (hp0 : 0 ≤ pl) (hp1 : pl ≤ 2147483647) (h46 : ∀ j (h : j < s.size), ¬ (s[j].toNat : Int) = 46) (R : Int × Bool) (HR : Hid (R = mres pl false s.data.toList [])) :
    Calls Try.prog 19 #[.string s, .int .i32 pl] w fun e w' => e = .returned (.tuple #[.int .i64 R.1, .bool R.2]) ∧ w' = w := by
  have H46 : Hid _ := h46
  clear h46
  go_enter Try.func19, Try.ntmps19
  go_wp2
  go_loop [6, 7] (fun x i => ∃ k : Nat, k ≤ s.size ∧ x = .int .i64 (-1) ∧ i = .int .i64 k) (fun _ i => s.size - (intOf i).toNat)
  case atStart => exact ⟨0, Nat.zero_le _, rfl, rfl⟩
  case round =>
    obtain ⟨k, hk, rfl, rfl⟩ := hrel
    by_cases hlt : k < s.size
    · have hne : ((s[k].toNat : Int) == 46) = false := by rw [beq_eq_false_iff_ne]; exact H46.out k hlt
      go_wp2
      go_round
      case rel => exact ⟨k + 1, by omega, rfl, by go_num⟩
      case measure => simp [intOf]; omega
    · clear H46
      go_upto_region 12 with fail
      obtain ⟨F, hF⟩ : ∃ F : ByteArray, F = { data := #[] } := ⟨_, rfl⟩
      rw [← hF]
      have HR2 : R = mres pl false s.data.toList F.data.toList := by rw [HR.out, hF]
      have hFs : F.size ≤ 65536 := by rw [hF]; decide
      clear hF HR
      have HR : Hid _ := HR2
      clear HR2
      by_cases t1 : s.size = 0
      · have HE : Hid (R = (0, false)) := HR.out.trans (mres_bad (Or.inl (list_nil t1)))
        have t1b : ((s.size : Int) == 0) = true := by rw [beq_iff_eq]; omega
        clear t1 HR
        go_wp2
        go_ret2
        exact ⟨by rw [HE.out]; rfl, rfl⟩
      · have HI : Hid _ := list_ne t1
        have t1b : ((s.size : Int) == 0) = false := by rw [beq_eq_false_iff_ne]; omega
        have t1c : 0 < s.size := by omega
        clear t1
        cases t2 : alld s.data.toList
        · have HE : Hid (R = (0, false)) := HR.out.trans (mres_bad (Or.inr (Or.inl t2)))
          have T2 : Hid _ := t2
          clear t2 HR
          go_wp2_with fail
          refine (All.all_is s _ (by unfold maxLen; omega) false T2.out).mono ?_
          rintro e w1 ⟨rfl, rfl⟩
          go_wp2
          go_ret2
          exact ⟨by rw [HE.out]; rfl, rfl⟩
        · have T2 : Hid _ := t2
          clear t2
          cases t3 : alld F.data.toList
          · have HE : Hid (R = (0, false)) := HR.out.trans (mres_bad (Or.inr (Or.inr (Or.inl t3))))
            have T3 : Hid _ := t3
            clear t3 HR
            go_wp2_with fail
            refine (All.all_is s _ (by unfold maxLen; omega) true T2.out).mono ?_
            rintro e w1 ⟨rfl, rfl⟩
            go_wp2_with fail
            refine (All.all_is F _ (by unfold maxLen; omega) false T3.out).mono ?_
            rintro e w2 ⟨rfl, rfl⟩
            go_wp2
            go_ret2
            exact ⟨by rw [HE.out]; rfl, rfl⟩
          · have T3 : Hid _ := t3
            clear t3
            by_cases t5 : pl < (F.size : Int)
            · have HE : Hid (R = (0, false)) := HR.out.trans (mres_bad (Or.inr (Or.inr (Or.inr (Or.inr (Or.inl (by rw [list_len]; exact t5)))))))
              clear HR
              go_wp2_with fail
              refine (All.all_is s _ (by unfold maxLen; omega) true T2.out).mono ?_
              rintro e w1 ⟨rfl, rfl⟩
              go_wp2_with fail
              refine (All.all_is F _ (by unfold maxLen; omega) true T3.out).mono ?_
              rintro e w2 ⟨rfl, rfl⟩
              go_wp2
              go_ret2
              exact ⟨by rw [HE.out]; rfl, rfl⟩
            · go_wp2_with fail
              refine (All.all_is s _ (by unfold maxLen; omega) true T2.out).mono ?_
              rintro e w1 ⟨rfl, rfl⟩
              go_wp2_with fail
              refine (All.all_is F _ (by unfold maxLen; omega) true T3.out).mono ?_
              rintro e w2 ⟨rfl, rfl⟩
              go_wp2
              obtain ⟨T, hT⟩ : ∃ T, s ++ F = T := ⟨_, rfl⟩
              have hTl : T.data.toList = s.data.toList ++ F.data.toList := by rw [← hT]; simp
              have hTs : T.size = s.size + F.size := by rw [← hT]; simp
              rw [hT]
              have HTL : Hid _ := hTl
              have hT1 : T.size ≤ 131072 := by omega
              clear hT hTl hTs
              go_loop [11] (fun i => ∃ k : Nat, k ≤ T.size ∧ i = .int .i64 k ∧ Hid (sg (T.data.toList.drop k) = sg T.data.toList)) (fun i => T.size - (intOf i).toNat)
              case atStart => exact ⟨0, Nat.zero_le _, rfl, rfl⟩
              case round =>
                obtain ⟨k, hk, rfl, hsg⟩ := hrel
                by_cases hk1 : k < T.size
                · by_cases hz : (T[k].toNat : Int) = 48
                  · have hzb : ((T[k].toNat : Int) == 48) = true := by rw [beq_iff_eq]; exact hz
                    have HS : Hid (sg (T.data.toList.drop (k + 1)) = sg T.data.toList) := by
                      have := hsg.out
                      rw [drop_cons T k hk1, sg_zero hz] at this
                      exact this
                    clear hz hsg
                    go_wp2
                    go_round
                    case rel => exact ⟨k + 1, by omega, by go_num, HS.out⟩
                    case measure => simp [intOf]; omega
                  · have hzb : ((T[k].toNat : Int) == 48) = false := by rw [beq_eq_false_iff_ne]; exact hz
                    have hdr : T.data.toList.drop k = sg T.data.toList := by
                      have := hsg.out
                      rw [drop_cons T k hk1, sg_stop hz] at this
                      rw [← this, drop_cons T k hk1]
                    have hsz : (sg T.data.toList).length = T.size - k := by rw [← hdr, List.length_drop, list_len]
                    have HDR : Hid _ := hdr
                    clear hz hsg hdr
                    by_cases hbig : 18 < ((T.size : Int) - k) + (pl - F.size)
                    · have HE : Hid (R = (0, false)) := HR.out.trans (mres_bad (Or.inr (Or.inr (Or.inr (Or.inr (Or.inr (Or.inr (by rw [← HTL.out, hsz, list_len]; omega))))))))
                      clear HR hsz
                      go_wp2
                      go_ret2
                      exact ⟨by rw [HE.out]; rfl, rfl⟩
                    · have hne : sg T.data.toList ≠ [] := fun e => by rw [e, List.length_nil] at hsz; omega
                      have HE : Hid (R = (nval (sg T.data.toList) * 10 ^ (pl - F.size).toNat, true)) := by
                        show R = _
                        rw [HR.out, mres_ok HI.out T2.out T3.out (fun h => by cases h.1) (by rw [list_len]; omega) (by rw [← HTL.out]; exact hne) (by rw [← HTL.out, hsz, list_len]; omega), ← HTL.out, list_len]
                      have HA : Hid (alld (sg T.data.toList) = true) := (sg_nval T.data.toList (by rw [HTL.out, alld_append, T2.out, T3.out]; rfl)).2.1
                      clear HR hsz hne HI T2 T3  HTL
                      go_wp2
                      obtain ⟨G, hG⟩ : ∃ G, T.extract k T.size = G := ⟨_, rfl⟩
                      have hGl : G.data.toList = sg T.data.toList := by rw [← hG, ← HDR.out, extract_list]
                      have hGs : G.size = T.size - k := by rw [← hG]; simp
                      rw [hG]
                      have HAG : Hid (alld G.data.toList = true) := by show _ = true; rw [hGl]; exact HA.out
                      have HEG : Hid (R = (nval G.data.toList * 10 ^ (pl - F.size).toNat, true)) := by show R = _; rw [hGl]; exact HE.out
                      have hG1 : (G.size : Int) + (pl - F.size) ≤ 18 := by omega
                      clear hG hGl hGs HA HE HDR hbig
                      go_loop [14, 15] (fun x i => ∃ (j : Nat) (v : Int), j ≤ G.size ∧ x = .int .i64 v ∧ i = .int .i64 j ∧ Hid (v = nval (G.data.toList.take j))) (fun _ i => G.size - (intOf i).toNat)
                      case atStart => exact ⟨0, 0, Nat.zero_le _, rfl, rfl, rfl⟩
                      case round =>
                        obtain ⟨j, v, hj, rfl, rfl, hv⟩ := hrel
                        by_cases hj1 : j < G.size
                        · obtain ⟨hd0, hd1⟩ := dig_at G j hj1 HAG.out
                          have hb := take_bound HAG.out (j := j) (by omega)
                          rw [← hv.out] at hb
                          obtain ⟨hb0, hb1⟩ := hb
                          have HV : Hid (v * 10 + ((G[j].toNat : Int) - 48) = nval (G.data.toList.take (j + 1))) := by
                            show _ = _
                            rw [take_snoc G j hj1, nval_snoc, ← hv.out]; omega
                          clear hv
                          go_wp2
                          go_round
                          case rel => exact ⟨j + 1, _, by omega, rfl, by go_num, HV.out⟩
                          case measure => simp [intOf]; omega
                        · have HV : Hid (v = nval G.data.toList) := by show v = _; rw [hv.out, take_all G j (by omega)]
                          clear hv
                          go_wp2
                          go_loop [14, 16] (fun x i => ∃ (j : Nat) (y : Int), (j : Int) ≤ pl - F.size ∧ x = .int .i64 y ∧ i = .int .i64 j ∧ Hid (y = nval G.data.toList * 10 ^ j)) (fun _ i => (pl - F.size - intOf i).toNat)
                          case atStart => exact ⟨0, v, by omega, rfl, rfl, (by show v = _; rw [HV.out, Int.pow_zero, Int.mul_one])⟩
                          case round =>
                            obtain ⟨j2, y, hj2, rfl, rfl, hy⟩ := hrel
                            by_cases hj3 : (j2 : Int) < pl - F.size
                            · have hb := mul_bound HAG.out (j := j2 + 1) (by omega)
                              rw [← mul_more, ← hy.out] at hb
                              obtain ⟨hb0, hb1⟩ := hb
                              have HY : Hid (y * 10 = nval G.data.toList * 10 ^ (j2 + 1)) := by show _ = _; rw [hy.out, mul_more]
                              clear hy
                              go_wp2
                              go_round
                              case rel => exact ⟨j2 + 1, _, by omega, rfl, by go_num, HY.out⟩
                              case measure => simp [intOf]; omega
                            · have HY : Hid (R = (y, true)) := by show R = _; rw [HEG.out, hy.out, show (pl - F.size).toNat = j2 by omega]
                              clear hy
                              go_wp2
                              go_ret2
                              exact ⟨by rw [HY.out]; rfl, rfl⟩
                · have hkT : k = T.size := by omega
                  subst hkT
                  have HE : Hid (R = (0, false)) := HR.out.trans (mres_bad (Or.inr (Or.inr (Or.inr (Or.inr (Or.inr (Or.inl (by rw [← HTL.out, ← hsg.out, drop_all T T.size (Nat.le_refl _)]; rfl))))))))
                  clear HR hsg
                  go_wp2
                  go_ret2
                  exact ⟨by rw [HE.out]; rfl, rfl⟩

set_option maxHeartbeats 1000000 in
/-- 'modelUnits' (19), the first point at 'p'. -/
theorem model_pt (s : ByteArray) (pl : Int) (p : Nat) (w : World) (hs : s.size ≤ 65536) (hp0 : 0 ≤ pl) (hp1 : pl ≤ 2147483647) (hp : p < s.size) (hdot : Hid ((s[p].toNat : Int) = 46)) (h46 : ∀ j (h : j < p), ¬ (s[j].toNat : Int) = 46) (R : Int × Bool) (HR : Hid (R = mres pl true (s.extract 0 p).data.toList (s.extract (p + 1) s.size).data.toList)) :
    Calls Try.prog 19 #[.string s, .int .i32 pl] w fun e w' => e = .returned (.tuple #[.int .i64 R.1, .bool R.2]) ∧ w' = w := by
  have H46 : Hid _ := h46
  clear h46
  go_enter Try.func19, Try.ntmps19
  go_wp2
  go_loop [6, 7] (fun x i => ∃ k : Nat, k ≤ p ∧ x = .int .i64 (-1) ∧ i = .int .i64 k) (fun _ i => s.size - (intOf i).toNat)
  case atStart => exact ⟨0, Nat.zero_le _, rfl, rfl⟩
  case round =>
    obtain ⟨k, hk, rfl, rfl⟩ := hrel
    by_cases hlt : k < p
    · have hne : ((s[k].toNat : Int) == 46) = false := by rw [beq_eq_false_iff_ne]; exact H46.out k hlt
      go_wp2
      go_round
      case rel => exact ⟨k + 1, by omega, rfl, by go_num⟩
      case measure => simp [intOf]; omega
    · have hkp : k = p := by omega
      subst hkp
      have he : ((s[k].toNat : Int) == 46) = true := by rw [beq_iff_eq]; exact hdot.out
      clear H46
      go_upto_region 12 with fail
      clear he hdot
      obtain ⟨I, hI⟩ : ∃ I, s.extract 0 k = I := ⟨_, rfl⟩
      obtain ⟨F, hF⟩ : ∃ F, s.extract (k + 1) s.size = F := ⟨_, rfl⟩
      have hIs : I.size ≤ 65536 := by rw [← hI]; simp; omega
      have hFs : F.size ≤ 65536 := by rw [← hF]; simp; omega
      have HR2 := HR.out
      rw [hI, hF] at HR2
      clear HR
      have HR : Hid _ := HR2
      clear HR2
      rw [hI, hF]
      clear hI hF
      by_cases t1 : I.size = 0
      · have HE : Hid (R = (0, false)) := HR.out.trans (mres_bad (Or.inl (list_nil t1)))
        have t1b : ((I.size : Int) == 0) = true := by rw [beq_iff_eq]; omega
        clear t1 HR
        go_wp2
        go_ret2
        exact ⟨by rw [HE.out]; rfl, rfl⟩
      · have HI : Hid _ := list_ne t1
        have t1b : ((I.size : Int) == 0) = false := by rw [beq_eq_false_iff_ne]; omega
        have t1c : 0 < I.size := by omega
        clear t1
        cases t2 : alld I.data.toList
        · have HE : Hid (R = (0, false)) := HR.out.trans (mres_bad (Or.inr (Or.inl t2)))
          have T2 : Hid _ := t2
          clear t2 HR
          go_wp2_with fail
          refine (All.all_is I _ (by unfold maxLen; omega) false T2.out).mono ?_
          rintro e w1 ⟨rfl, rfl⟩
          go_wp2
          go_ret2
          exact ⟨by rw [HE.out]; rfl, rfl⟩
        · have T2 : Hid _ := t2
          clear t2
          cases t3 : alld F.data.toList
          · have HE : Hid (R = (0, false)) := HR.out.trans (mres_bad (Or.inr (Or.inr (Or.inl t3))))
            have T3 : Hid _ := t3
            clear t3 HR
            go_wp2_with fail
            refine (All.all_is I _ (by unfold maxLen; omega) true T2.out).mono ?_
            rintro e w1 ⟨rfl, rfl⟩
            go_wp2_with fail
            refine (All.all_is F _ (by unfold maxLen; omega) false T3.out).mono ?_
            rintro e w2 ⟨rfl, rfl⟩
            go_wp2
            go_ret2
            exact ⟨by rw [HE.out]; rfl, rfl⟩
          · have T3 : Hid _ := t3
            clear t3
            by_cases t4 : F.size = 0
            · have HE : Hid (R = (0, false)) := HR.out.trans (mres_bad (Or.inr (Or.inr (Or.inr (Or.inl ⟨rfl, list_nil t4⟩)))))
              have t4b : ((F.size : Int) == 0) = true := by rw [beq_iff_eq]; omega
              clear t4 HR
              go_wp2_with fail
              refine (All.all_is I _ (by unfold maxLen; omega) true T2.out).mono ?_
              rintro e w1 ⟨rfl, rfl⟩
              go_wp2_with fail
              refine (All.all_is F _ (by unfold maxLen; omega) true T3.out).mono ?_
              rintro e w2 ⟨rfl, rfl⟩
              go_wp2
              go_ret2
              exact ⟨by rw [HE.out]; rfl, rfl⟩
            · have H4 : Hid _ := list_ne t4
              have t4b : ((F.size : Int) == 0) = false := by rw [beq_eq_false_iff_ne]; omega
              clear t4
              by_cases t5 : pl < (F.size : Int)
              · have HE : Hid (R = (0, false)) := HR.out.trans (mres_bad (Or.inr (Or.inr (Or.inr (Or.inr (Or.inl (by rw [list_len]; exact t5)))))))
                clear HR
                go_wp2_with fail
                refine (All.all_is I _ (by unfold maxLen; omega) true T2.out).mono ?_
                rintro e w1 ⟨rfl, rfl⟩
                go_wp2_with fail
                refine (All.all_is F _ (by unfold maxLen; omega) true T3.out).mono ?_
                rintro e w2 ⟨rfl, rfl⟩
                go_wp2
                go_ret2
                exact ⟨by rw [HE.out]; rfl, rfl⟩
              · go_wp2_with fail
                refine (All.all_is I _ (by unfold maxLen; omega) true T2.out).mono ?_
                rintro e w1 ⟨rfl, rfl⟩
                go_wp2_with fail
                refine (All.all_is F _ (by unfold maxLen; omega) true T3.out).mono ?_
                rintro e w2 ⟨rfl, rfl⟩
                go_wp2
                obtain ⟨T, hT⟩ : ∃ T, I ++ F = T := ⟨_, rfl⟩
                have hTl : T.data.toList = I.data.toList ++ F.data.toList := by rw [← hT]; simp
                have hTs : T.size = I.size + F.size := by rw [← hT]; simp
                rw [hT]
                have HTL : Hid _ := hTl
                have hT1 : T.size ≤ 131072 := by omega
                clear hT hTl hTs
                go_loop [11] (fun i => ∃ k : Nat, k ≤ T.size ∧ i = .int .i64 k ∧ Hid (sg (T.data.toList.drop k) = sg T.data.toList)) (fun i => T.size - (intOf i).toNat)
                case atStart => exact ⟨0, Nat.zero_le _, rfl, rfl⟩
                case round =>
                  obtain ⟨k, hk, rfl, hsg⟩ := hrel
                  by_cases hk1 : k < T.size
                  · by_cases hz : (T[k].toNat : Int) = 48
                    · have hzb : ((T[k].toNat : Int) == 48) = true := by rw [beq_iff_eq]; exact hz
                      have HS : Hid (sg (T.data.toList.drop (k + 1)) = sg T.data.toList) := by
                        have := hsg.out
                        rw [drop_cons T k hk1, sg_zero hz] at this
                        exact this
                      clear hz hsg
                      go_wp2
                      go_round
                      case rel => exact ⟨k + 1, by omega, by go_num, HS.out⟩
                      case measure => simp [intOf]; omega
                    · have hzb : ((T[k].toNat : Int) == 48) = false := by rw [beq_eq_false_iff_ne]; exact hz
                      have hdr : T.data.toList.drop k = sg T.data.toList := by
                        have := hsg.out
                        rw [drop_cons T k hk1, sg_stop hz] at this
                        rw [← this, drop_cons T k hk1]
                      have hsz : (sg T.data.toList).length = T.size - k := by rw [← hdr, List.length_drop, list_len]
                      have HDR : Hid _ := hdr
                      clear hz hsg hdr
                      by_cases hbig : 18 < ((T.size : Int) - k) + (pl - F.size)
                      · have HE : Hid (R = (0, false)) := HR.out.trans (mres_bad (Or.inr (Or.inr (Or.inr (Or.inr (Or.inr (Or.inr (by rw [← HTL.out, hsz, list_len]; omega))))))))
                        clear HR hsz
                        go_wp2
                        go_ret2
                        exact ⟨by rw [HE.out]; rfl, rfl⟩
                      · have hne : sg T.data.toList ≠ [] := fun e => by rw [e, List.length_nil] at hsz; omega
                        have HE : Hid (R = (nval (sg T.data.toList) * 10 ^ (pl - F.size).toNat, true)) := by
                          show R = _
                          rw [HR.out, mres_ok HI.out T2.out T3.out (fun h => H4.out h.2) (by rw [list_len]; omega) (by rw [← HTL.out]; exact hne) (by rw [← HTL.out, hsz, list_len]; omega), ← HTL.out, list_len]
                        have HA : Hid (alld (sg T.data.toList) = true) := (sg_nval T.data.toList (by rw [HTL.out, alld_append, T2.out, T3.out]; rfl)).2.1
                        clear HR hsz hne HI T2 T3 H4 HTL
                        go_wp2
                        obtain ⟨G, hG⟩ : ∃ G, T.extract k T.size = G := ⟨_, rfl⟩
                        have hGl : G.data.toList = sg T.data.toList := by rw [← hG, ← HDR.out, extract_list]
                        have hGs : G.size = T.size - k := by rw [← hG]; simp
                        rw [hG]
                        have HAG : Hid (alld G.data.toList = true) := by show _ = true; rw [hGl]; exact HA.out
                        have HEG : Hid (R = (nval G.data.toList * 10 ^ (pl - F.size).toNat, true)) := by show R = _; rw [hGl]; exact HE.out
                        have hG1 : (G.size : Int) + (pl - F.size) ≤ 18 := by omega
                        clear hG hGl hGs HA HE HDR hbig
                        go_loop [14, 15] (fun x i => ∃ (j : Nat) (v : Int), j ≤ G.size ∧ x = .int .i64 v ∧ i = .int .i64 j ∧ Hid (v = nval (G.data.toList.take j))) (fun _ i => G.size - (intOf i).toNat)
                        case atStart => exact ⟨0, 0, Nat.zero_le _, rfl, rfl, rfl⟩
                        case round =>
                          obtain ⟨j, v, hj, rfl, rfl, hv⟩ := hrel
                          by_cases hj1 : j < G.size
                          · obtain ⟨hd0, hd1⟩ := dig_at G j hj1 HAG.out
                            have hb := take_bound HAG.out (j := j) (by omega)
                            rw [← hv.out] at hb
                            obtain ⟨hb0, hb1⟩ := hb
                            have HV : Hid (v * 10 + ((G[j].toNat : Int) - 48) = nval (G.data.toList.take (j + 1))) := by
                              show _ = _
                              rw [take_snoc G j hj1, nval_snoc, ← hv.out]; omega
                            clear hv
                            go_wp2
                            go_round
                            case rel => exact ⟨j + 1, _, by omega, rfl, by go_num, HV.out⟩
                            case measure => simp [intOf]; omega
                          · have HV : Hid (v = nval G.data.toList) := by show v = _; rw [hv.out, take_all G j (by omega)]
                            clear hv
                            go_wp2
                            go_loop [14, 16] (fun x i => ∃ (j : Nat) (y : Int), (j : Int) ≤ pl - F.size ∧ x = .int .i64 y ∧ i = .int .i64 j ∧ Hid (y = nval G.data.toList * 10 ^ j)) (fun _ i => (pl - F.size - intOf i).toNat)
                            case atStart => exact ⟨0, v, by omega, rfl, rfl, (by show v = _; rw [HV.out, Int.pow_zero, Int.mul_one])⟩
                            case round =>
                              obtain ⟨j2, y, hj2, rfl, rfl, hy⟩ := hrel
                              by_cases hj3 : (j2 : Int) < pl - F.size
                              · have hb := mul_bound HAG.out (j := j2 + 1) (by omega)
                                rw [← mul_more, ← hy.out] at hb
                                obtain ⟨hb0, hb1⟩ := hb
                                have HY : Hid (y * 10 = nval G.data.toList * 10 ^ (j2 + 1)) := by show _ = _; rw [hy.out, mul_more]
                                clear hy
                                go_wp2
                                go_round
                                case rel => exact ⟨j2 + 1, _, by omega, rfl, by go_num, HY.out⟩
                                case measure => simp [intOf]; omega
                              · have HY : Hid (R = (y, true)) := by show R = _; rw [HEG.out, hy.out, show (pl - F.size).toNat = j2 by omega]
                                clear hy
                                go_wp2
                                go_ret2
                                exact ⟨by rw [HY.out]; rfl, rfl⟩
                  · have hkT : k = T.size := by omega
                    subst hkT
                    have HE : Hid (R = (0, false)) := HR.out.trans (mres_bad (Or.inr (Or.inr (Or.inr (Or.inr (Or.inr (Or.inl (by rw [← HTL.out, ← hsg.out, drop_all T T.size (Nat.le_refl _)]; rfl))))))))
                    clear HR hsg
                    go_wp2
                    go_ret2
                    exact ⟨by rw [HE.out]; rfl, rfl⟩

/-- 'modelUnits' (19) answers as 'parseUnits' does, the two answers named by the caller. -/
theorem model_is (s : ByteArray) (pl : Int) (w : World) (hs : s.size ≤ 65536) (hp0 : 0 ≤ pl) (hp1 : pl ≤ 2147483647) (r : Int) (b : Bool) (hr : pgo pl true 0 (-1) s.data.toList = (r, b)) :
    Calls Try.prog 19 #[.string s, .int .i32 pl] w fun e w' => e = .returned (.tuple #[.int .i64 r, .bool b]) ∧ w' = w := by
  rcases first_dot s with h | ⟨p, hp, hd, h⟩
  · exact model_no s pl w hs hp0 hp1 h (r, b) (hr.symm.trans (agree_no pl hp0 s h))
  · exact model_pt s pl p w hs hp0 hp1 hp hd h (r, b) (hr.symm.trans (agree_pt pl hp0 s p hp hd h))

end Go.Proofs.Qxb6600508a.Model
