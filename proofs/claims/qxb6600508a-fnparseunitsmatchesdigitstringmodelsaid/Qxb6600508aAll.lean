import Derived.Test.Qxb6600508aKit
import Derived.Test.Qxb6600508aPlain
namespace Go.Proofs.Qxb6600508a.All
open Go.ChangeShapes Go.WideShapes Go.ChangeAt Go.RowKit Kit Plain

set_option maxHeartbeats 400000 in
/-- 'isDecimalDigit' (25). -/
theorem isdig_any (c : UInt8) (w : World) : Calls Try.prog 25 #[.int .u8 (c.toNat : Int)] w fun e w' => e = .returned (.bool (digB c)) ∧ w' = w := by
  have hc : (c.toNat : Int) ≤ 255 := by have := c.toNat_lt; omega
  by_cases h : 48 ≤ (c.toNat : Int)
  · by_cases k : (c.toNat : Int) ≤ 57
    · have hd := (digB_iff c).2 ⟨h, k⟩
      rw [hd]
      clear hd
      go_enter Try.func25, Try.ntmps25
      go_wp2
      go_ret
      exact ⟨ret_bool (by rw [decide_eq_true_iff]; omega), rfl⟩
    · have hd := digB_not c (fun q => k q.2)
      rw [hd]
      clear hd
      go_enter Try.func25, Try.ntmps25
      go_wp2
      go_ret
      exact ⟨ret_bool (by rw [decide_eq_false_iff_not]; omega), rfl⟩
  · have hd := digB_not c (fun q => h q.1)
    rw [hd]
    clear hd
    go_enter Try.func25, Try.ntmps25
    go_wp2
    go_ret
    exact ⟨ret_bool (by rw [decide_eq_false_iff_not]; omega), rfl⟩

set_option maxHeartbeats 400000 in
/-- 'allDecimalDigits' (14). -/
theorem all_any (s : ByteArray) (w : World) (hs : s.size ≤ maxLen) : Calls Try.prog 14 #[.string s] w fun e w' => e = .returned (.bool (alld s.data.toList)) ∧ w' = w := by
  unfold maxLen at hs
  go_enter Try.func14, Try.ntmps14
  go_wp2
  go_loop [3] (fun i => ∃ k : Nat, k ≤ s.size ∧ i = .int .i64 k ∧ Hid (alld (s.data.toList.take k) = true)) (fun i => s.size - (intOf i).toNat)
  case atStart => exact ⟨0, Nat.zero_le _, rfl, rfl⟩
  case round =>
    obtain ⟨k, hk, rfl, hal⟩ := hrel
    by_cases hlt : k < s.size
    · by_cases hd : digB s[k] = true
      · have HD : Hid _ := hd
        go_wp2_with (go_at_call 25; refine (isdig_any _ _).mono ?_; rintro e w' ⟨rfl, rfl⟩)
        go_round
        case rel =>
          refine ⟨k + 1, by omega, by go_num, ?_⟩
          show alld _ = true
          rw [take_snoc s k hlt, alld_snoc, hal.out, HD.out]; rfl
        case measure => simp [intOf]; omega
      · have hd' : digB s[k] = false := by simpa using hd
        have HB : Hid (alld s.data.toList = false) := alld_bad s k hlt hd'
        clear hd
        go_wp2_with (go_at_call 25; refine (isdig_any _ _).mono ?_; rintro e w' ⟨rfl, rfl⟩)
        go_ret
        exact ⟨by rw [HB.out]; rfl, rfl⟩
    · have HB : Hid (alld s.data.toList = true) := by rw [← take_all s k (by omega)]; exact hal.out
      go_wp2
      go_ret
      exact ⟨by rw [HB.out]; rfl, rfl⟩

/-- The same, the answer named by the caller. -/
theorem all_is (s : ByteArray) (w : World) (hs : s.size ≤ maxLen) (b : Bool) (hb : alld s.data.toList = b) : Calls Try.prog 14 #[.string s] w fun e w' => e = .returned (.bool b) ∧ w' = w := by
  subst hb
  exact all_any s w hs

set_option maxHeartbeats 400000 in
/-- 'zzBytes_FnDigitsMatchesPlaceValueModel' (12). -/
theorem bytes12 (s : ByteArray) (w : World) (hs : s.size ≤ 1048576) : Calls Try.prog 12 #[.string s] w fun e w' => e = .returned (.bool true) ∧ w' = w := by
  go_enter Try.func12, Try.ntmps12
  go_wp2
  go_ret
  exact ⟨rfl, rfl⟩

end Go.Proofs.Qxb6600508a.All
