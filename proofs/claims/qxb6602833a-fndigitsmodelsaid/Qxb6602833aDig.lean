import Derived.Test.Qxb6602833aKit
import Derived.Test.Qxb6602833aPlain
namespace Go.Proofs.Qxb6602833a.Dig
open Go.ChangeShapes Go.WideShapes Go.ChangeAt Go.RowKit Kit Plain

/-- What both answer, where i+n does not overflow. -/
def ans (s : ByteArray) (i n : Int) : Bool :=
  if i < 0 then false else if (s.size : Int) < i + n then false else if n < 0 then true else alld ((s.data.toList.drop i.toNat).take n.toNat)

set_option maxHeartbeats 400000 in
/-- 'digits' (14) over a window that lies in the text. -/
theorem digits_in (s : ByteArray) (a c : Nat) (w : World) (hs : s.size ≤ 1048576) (hac : a + c ≤ s.size) (r : Bool) (hr : Hid (alld ((s.data.toList.drop a).take c) = r)) :
    Calls Try.prog 14 #[.string s, .int .i64 a, .int .i64 c] w fun e w' => e = .returned (.bool r) ∧ w' = w := by
  go_enter Try.func14, Try.ntmps14
  go_wp2
  go_loop [7] (fun i => ∃ k : Nat, a ≤ k ∧ k ≤ a + c ∧ i = .int .i64 k ∧ Hid (alld ((s.data.toList.drop k).take (a + c - k)) = r)) (fun i => a + c - (intOf i).toNat)
  case atStart => exact ⟨a, Nat.le_refl _, by omega, rfl, (by show _ = r; rw [Nat.add_sub_cancel_left]; exact hr.out)⟩
  case round =>
    clear hr
    obtain ⟨k, hk0, hk1, rfl, hg⟩ := hrel
    by_cases hlt : k < a + c
    · have hks : k < s.size := by omega
      have hg1 := hg.out
      rw [drop_cons s k hks, show a + c - k = (a + c - (k + 1)) + 1 by omega, List.take_succ_cons, alld_cons] at hg1
      by_cases h1 : 48 ≤ (s[k].toNat : Int)
      · by_cases h2 : (s[k].toNat : Int) ≤ 57
        · rw [(digB_iff _).2 ⟨h1, h2⟩, Bool.true_and] at hg1
          have HG : Hid _ := hg1
          clear hg1 hg
          go_wp2
          go_round
          case rel => exact ⟨k + 1, by omega, by omega, by go_num, HG.out⟩
          case measure => simp [intOf]; omega
        · rw [digB_not _ (fun h => h2 h.2), Bool.false_and] at hg1
          subst hg1
          clear hg
          go_wp2
          go_ret
          exact ⟨rfl, rfl⟩
      · rw [digB_not _ (fun h => h1 h.1), Bool.false_and] at hg1
        subst hg1
        clear hg
        go_wp2
        go_ret
        exact ⟨rfl, rfl⟩
    · have hg1 := hg.out
      rw [show a + c - k = 0 by omega, List.take_zero] at hg1
      have hr : r = true := hg1.symm
      subst hr
      clear hg hg1
      go_wp2
      go_ret
      exact ⟨rfl, rfl⟩

set_option maxHeartbeats 400000 in
/-- 'digits' (14) elsewhere. -/
theorem digits_out (s : ByteArray) (i n : Int) (w : World) (_hs : s.size ≤ 1048576) (bi : -9223372036854775808 ≤ i ∧ i ≤ 9223372036854775807) (bs : -9223372036854775808 ≤ i + n ∧ i + n ≤ 9223372036854775807) (r : Bool)
    (h : (i < 0 ∧ r = false) ∨ (0 ≤ i ∧ (s.size : Int) < i + n ∧ r = false) ∨ (0 ≤ i ∧ ¬ (s.size : Int) < i + n ∧ n < 0 ∧ r = true)) :
    Calls Try.prog 14 #[.string s, .int .i64 i, .int .i64 n] w fun e w' => e = .returned (.bool r) ∧ w' = w := by
  obtain ⟨bi0, bi1⟩ := bi
  obtain ⟨bs0, bs1⟩ := bs
  rcases h with ⟨h, rfl⟩ | ⟨h, k, rfl⟩ | ⟨h, k, q, rfl⟩
  · go_enter Try.func14, Try.ntmps14
    go_wp2
    go_ret
    exact ⟨rfl, rfl⟩
  · go_enter Try.func14, Try.ntmps14
    go_wp2
    go_ret
    exact ⟨rfl, rfl⟩
  · go_enter Try.func14, Try.ntmps14
    go_wp2
    go_loop [7] (fun j => j = .int .i64 i) (fun _ => 0)
    case atStart => rfl
    case round =>
      subst hrel
      go_wp2
      go_ret
      exact ⟨rfl, rfl⟩

theorem ans_out (s : ByteArray) (i n : Int) : (0 ≤ i ∧ 0 ≤ n ∧ i + n ≤ s.size) ∨ ((i < 0 ∧ ans s i n = false) ∨ (0 ≤ i ∧ (s.size : Int) < i + n ∧ ans s i n = false) ∨ (0 ≤ i ∧ ¬ (s.size : Int) < i + n ∧ n < 0 ∧ ans s i n = true)) := by
  unfold ans
  by_cases h1 : i < 0
  · exact Or.inr (Or.inl ⟨h1, by rw [if_pos h1]⟩)
  · by_cases h2 : (s.size : Int) < i + n
    · exact Or.inr (Or.inr (Or.inl ⟨by omega, h2, by rw [if_neg h1, if_pos h2]⟩))
    · by_cases h3 : n < 0
      · exact Or.inr (Or.inr (Or.inr ⟨by omega, h2, h3, by rw [if_neg h1, if_neg h2, if_pos h3]⟩))
      · exact Or.inl ⟨by omega, by omega, by omega⟩

theorem ans_in (s : ByteArray) (a c : Nat) (h : a + c ≤ s.size) : ans s a c = alld ((s.data.toList.drop a).take c) := by
  unfold ans
  rw [if_neg (by omega), if_neg (by omega), if_neg (by omega), Int.toNat_natCast, Int.toNat_natCast]

/-- 'digits' (14), everywhere that i+n fits. -/
theorem digits_any (s : ByteArray) (i n : Int) (w : World) (hs : s.size ≤ 1048576) (bi : -9223372036854775808 ≤ i ∧ i ≤ 9223372036854775807) (bs : -9223372036854775808 ≤ i + n ∧ i + n ≤ 9223372036854775807) :
    Calls Try.prog 14 #[.string s, .int .i64 i, .int .i64 n] w fun e w' => e = .returned (.bool (ans s i n)) ∧ w' = w := by
  rcases ans_out s i n with ⟨h1, h2, h3⟩ | h
  · obtain ⟨a, rfl⟩ : ∃ a : Nat, i = a := ⟨i.toNat, by omega⟩
    obtain ⟨c, rfl⟩ : ∃ c : Nat, n = c := ⟨n.toNat, by omega⟩
    exact digits_in s a c w hs (by omega) _ (ans_in s a c (by omega)).symm
  · exact digits_out s i n w hs bi bs _ h

set_option maxHeartbeats 400000 in
/-- 'ZZdigits' (8), the answer named by the caller. -/
theorem zzdigits_is (s : ByteArray) (i n : Int) (w : World) (hs : s.size ≤ 1048576) (bi : -9223372036854775808 ≤ i ∧ i ≤ 9223372036854775807) (bs : -9223372036854775808 ≤ i + n ∧ i + n ≤ 9223372036854775807) :
    Calls Try.prog 8 #[.string s, .int .i64 i, .int .i64 n] w fun e w' => e = .returned (.bool (ans s i n)) ∧ w' = w := by
  have BI : Hid _ := bi
  have BS : Hid _ := bs
  clear bi bs
  go_enter Try.func8, Try.ntmps8
  go_wp2_with (go_at_call 14; refine (digits_any s i n _ hs BI.out BS.out).mono ?_; rintro e w' ⟨rfl, rfl⟩)
  go_ret
  exact ⟨rfl, rfl⟩

set_option maxHeartbeats 400000 in
/-- 'digitRun' (15). -/
theorem run_any (s : ByteArray) (a : Nat) (w : World) (hs : s.size ≤ 1048576) (ha : a ≤ s.size) (r : Nat) (hr : Hid (run (s.data.toList.drop a) = r)) :
    Calls Try.prog 15 #[.string s, .int .i64 a] w fun e w' => e = .returned (.int .i64 r) ∧ w' = w := by
  go_enter Try.func15, Try.ntmps15
  go_wp2
  go_loop [5] (fun i => ∃ k : Nat, a ≤ k ∧ k ≤ s.size ∧ i = .int .i64 k ∧ Hid (r = (k - a) + run (s.data.toList.drop k))) (fun i => s.size - (intOf i).toNat)
  case atStart => exact ⟨a, Nat.le_refl _, ha, rfl, (by show r = _; rw [Nat.sub_self, Nat.zero_add]; exact hr.out.symm)⟩
  case round =>
    clear hr
    obtain ⟨k, hk0, hk1, rfl, hg⟩ := hrel
    have hg1 := hg.out
    clear hg
    by_cases hlt : k < s.size
    · rw [drop_cons s k hlt] at hg1
      by_cases h1 : 48 ≤ (s[k].toNat : Int)
      · by_cases h2 : (s[k].toNat : Int) ≤ 57
        · rw [run_dig ((digB_iff _).2 ⟨h1, h2⟩)] at hg1
          have HG : Hid (r = (k + 1 - a) + run (s.data.toList.drop (k + 1))) := by show r = _; omega
          clear hg1
          go_wp2
          go_round
          case rel => exact ⟨k + 1, by omega, by omega, by go_num, HG.out⟩
          case measure => simp [intOf]; omega
        · rw [run_not (digB_not _ (fun h => h2 h.2))] at hg1
          have HG : Hid (r = k - a) := by show r = _; omega
          clear hg1
          go_wp2
          go_ret
          exact ⟨ret_int (by have := HG.out; omega), rfl⟩
      · rw [run_not (digB_not _ (fun h => h1 h.1))] at hg1
        have HG : Hid (r = k - a) := by show r = _; omega
        clear hg1
        go_wp2
        go_ret
        exact ⟨ret_int (by have := HG.out; omega), rfl⟩
    · rw [drop_all s k (by omega)] at hg1
      have HG : Hid (r = k - a) := hg1
      clear hg1
      go_wp2
      go_ret
      exact ⟨ret_int (by have := HG.out; omega), rfl⟩

end Go.Proofs.Qxb6602833a.Dig
