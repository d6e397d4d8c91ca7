import Derived.Test.Qxb6600508aKit
import Derived.Test.Qxb6600508aPlain
namespace Go.Proofs.Qxb6600508a.Dig
open Go.ChangeShapes Go.WideShapes Go.ChangeAt Go.RowKit Kit Plain

set_option maxHeartbeats 400000 in
/-- 'digits' (24) of any string. -/
theorem digits_any (s : ByteArray) (w : World) (hs : s.size ≤ maxLen) :
    Calls Try.prog 24 #[.string s] w fun e w' => e = .returned (.tuple #[.int .i64 (digN s.data.toList), .bool (alld s.data.toList)]) ∧ w' = w := by
  unfold maxLen at hs
  go_enter Try.func24, Try.ntmps24
  go_wp2
  go_loop [2, 7] (fun n i => ∃ k : Nat, k ≤ s.size ∧ i = .int .i64 k ∧ n = .int .i64 (dval (s.data.toList.take k)) ∧ Hid (alld (s.data.toList.take k) = true)) (fun _ i => s.size - (intOf i).toNat)
  case atStart => exact ⟨0, Nat.zero_le _, rfl, rfl, rfl⟩
  case round =>
    obtain ⟨k, hk, rfl, rfl, hal⟩ := hrel
    by_cases hlt : k < s.size
    · by_cases h1 : 48 ≤ (s[k].toNat : Int)
      · by_cases h2 : (s[k].toNat : Int) ≤ 57
        · go_wp2
          go_round
          case rel =>
            refine ⟨k + 1, by omega, by go_num, ?_, ?_⟩
            · rw [take_snoc s k hlt, dval_snoc]
            · show alld _ = true
              rw [take_snoc s k hlt, alld_snoc, hal.out, (digB_iff _).2 ⟨h1, h2⟩]; rfl
          case measure => simp [intOf]; omega
        · have hb := alld_bad s k hlt (digB_not _ (fun h => h2 h.2))
          have HB : Hid (alld s.data.toList = false) := hb
          have HN : Hid (digN s.data.toList = 0) := by show digN _ = 0; unfold digN; rw [hb]; rfl
          clear hb
          go_wp2
          go_ret2
          exact ⟨by rw [HB.out, HN.out]; rfl, rfl⟩
      · have hb := alld_bad s k hlt (digB_not _ (fun h => h1 h.1))
        have HB : Hid (alld s.data.toList = false) := hb
        have HN : Hid (digN s.data.toList = 0) := by show digN _ = 0; unfold digN; rw [hb]; rfl
        clear hb
        go_wp2
        go_ret2
        exact ⟨by rw [HB.out, HN.out]; rfl, rfl⟩
    · have ht := take_all s k (by omega)
      have HB : Hid (alld s.data.toList = true) := by rw [← ht]; exact hal.out
      have HN : Hid (digN s.data.toList = dval (s.data.toList.take k)) := by show digN _ = _; unfold digN; rw [HB.out, ht]; rfl
      clear ht
      go_wp2
      go_ret2
      exact ⟨by rw [HB.out, HN.out]; rfl, rfl⟩

set_option maxHeartbeats 400000 in
/-- 'ZZdigits' (13). -/
theorem zzdigits_any (s : ByteArray) (w : World) (hs : s.size ≤ maxLen) :
    Calls Try.prog 13 #[.string s] w fun e w' => e = .returned (.tuple #[.int .i64 (digN s.data.toList), .bool (alld s.data.toList)]) ∧ w' = w := by
  go_enter Try.func13, Try.ntmps13
  go_wp2_with (go_at_call 24; refine (digits_any _ _ hs).mono ?_; rintro e w' ⟨rfl, rfl⟩)
  go_ret2
  exact ⟨rfl, rfl⟩

/-- The same with the two answers named by the caller. -/
theorem zzdigits_is (s : ByteArray) (w : World) (hs : s.size ≤ maxLen) (r : Int) (b : Bool) (hr : digN s.data.toList = r) (hb : alld s.data.toList = b) :
    Calls Try.prog 13 #[.string s] w fun e w' => e = .returned (.tuple #[.int .i64 r, .bool b]) ∧ w' = w := by
  subst hr; subst hb
  exact zzdigits_any s w hs

end Go.Proofs.Qxb6600508a.Dig
