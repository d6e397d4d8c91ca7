/-
  The statement 'Rows.FnDigitsModelSaid', proved. The frame is the given shell's; the walk and its contracts are ours.
-/
import Derived.Test.Qxb6602833aRows
import Derived.WalkKit
import Derived.ProofKit
import Derived.OpenShut
import Derived.ShutString
import Derived.Test.Qxb6602833aKit
import Derived.Test.Qxb6602833aPlain
import Derived.Test.Qxb6602833aDig
namespace Go.Proofs.Qxb6602833a.fnDigitsModel
open Go.ChangeShapes Go.WideShapes Go.ChangeAt Go.RowKit Kit
open Go.ChangeMaps (open_string shut_string)
set_option linter.unusedVariables false      -- a walk need not use every 'w<i>' (that an integer argument fits its kind)


/-! ### THE WALK: the Go text returns true and turns nothing that was there -/
open Plain Dig

set_option maxHeartbeats 400000 in
/-- 'digitsModel' (9), the window in the text. -/
theorem model_in (s : ByteArray) (a c : Nat) (w : World) (hs : s.size ≤ 1048576) (hac : a + c ≤ s.size) (r : Bool) (hr : Hid (ans s a c = r)) :
    Calls Try.prog 9 #[.string s, .int .i64 a, .int .i64 c] w fun e w' => e = .returned (.bool r) ∧ w' = w := by
  obtain ⟨q, hq⟩ : ∃ q, run (s.data.toList.drop a) = q := ⟨_, rfl⟩
  have HQ : Hid _ := hq
  have HR : Hid (decide (c ≤ q) = r) := by
    show _ = r
    rw [← hr.out, ans_in s a c hac, window _ c (by rw [List.length_drop, Array.length_toList]; show c ≤ s.size - a; omega), hq]
  clear hq hr
  go_enter Try.func9, Try.ntmps9
  go_wp2_with fail
  refine (run_any s a _ hs (by omega) q HQ.out).mono ?_
  rintro e w1 ⟨rfl, rfl⟩
  go_wp2
  go_ret
  exact ⟨ret_bool HR.out, rfl⟩

set_option maxHeartbeats 400000 in
/-- 'digitsModel' (9), elsewhere. -/
theorem model_out (s : ByteArray) (i n : Int) (w : World) (_hs : s.size ≤ 1048576) (bi : -9223372036854775808 ≤ i ∧ i ≤ 9223372036854775807) (bs : -9223372036854775808 ≤ i + n ∧ i + n ≤ 9223372036854775807) (r : Bool)
    (h : (i < 0 ∧ r = false) ∨ (0 ≤ i ∧ (s.size : Int) < i + n ∧ r = false) ∨ (0 ≤ i ∧ ¬ (s.size : Int) < i + n ∧ n < 0 ∧ r = true)) :
    Calls Try.prog 9 #[.string s, .int .i64 i, .int .i64 n] w fun e w' => e = .returned (.bool r) ∧ w' = w := by
  obtain ⟨bi0, bi1⟩ := bi
  obtain ⟨bs0, bs1⟩ := bs
  rcases h with ⟨h, rfl⟩ | ⟨h, k, rfl⟩ | ⟨h, k, q, rfl⟩
  · go_enter Try.func9, Try.ntmps9
    go_wp2
    go_ret
    exact ⟨rfl, rfl⟩
  · by_cases hn : n < 0
    · go_enter Try.func9, Try.ntmps9
      go_wp2
      go_ret
      exact ⟨ret_bool (by rw [decide_eq_false_iff_not]; omega), rfl⟩
    · by_cases hi : (s.size : Int) < i
      · go_enter Try.func9, Try.ntmps9
        go_wp2
        go_ret
        exact ⟨rfl, rfl⟩
      · have hb : (s.size : Int) - i < n := by omega
        go_enter Try.func9, Try.ntmps9
        go_wp2
        go_ret
        exact ⟨rfl, rfl⟩
  · go_enter Try.func9, Try.ntmps9
    go_wp2
    go_ret
    exact ⟨rfl, rfl⟩

/-- 'digitsModel' (9), everywhere that i+n fits. -/
theorem model_any (s : ByteArray) (i n : Int) (w : World) (hs : s.size ≤ 1048576) (bi : -9223372036854775808 ≤ i ∧ i ≤ 9223372036854775807) (bs : -9223372036854775808 ≤ i + n ∧ i + n ≤ 9223372036854775807) :
    Calls Try.prog 9 #[.string s, .int .i64 i, .int .i64 n] w fun e w' => e = .returned (.bool (ans s i n)) ∧ w' = w := by
  rcases ans_out s i n with ⟨h1, h2, h3⟩ | h
  · obtain ⟨a, rfl⟩ : ∃ a : Nat, i = a := ⟨i.toNat, by omega⟩
    obtain ⟨c, rfl⟩ : ∃ c : Nat, n = c := ⟨n.toNat, by omega⟩
    exact model_in s a c w hs (by omega) _ rfl
  · exact model_out s i n w hs bi bs _ h

set_option maxHeartbeats 400000 in
/-- 'zzBytes_FnDigitsModel' (7). -/
theorem bytes7 (s : ByteArray) (i n : Int) (w : World) (hs : s.size ≤ 1048576) : Calls Try.prog 7 #[.string s, .int .i64 i, .int .i64 n] w fun e w' => e = .returned (.bool true) ∧ w' = w := by
  go_enter Try.func7, Try.ntmps7
  go_wp2
  go_ret
  exact ⟨rfl, rfl⟩

set_option maxHeartbeats 400000 in
theorem walk_long (s : ByteArray) (i n : Int) (w : World) (hs : s.size ≤ maxLen) (hl : 1048576 < s.size) :
    Calls Try.prog 3 #[.string s, .int .i64 i, .int .i64 n] w fun e w' => e = .returned (.bool true) ∧ w' = w := by
  unfold maxLen at hs
  go_enter Try.func3, Try.ntmps3
  go_wp2
  go_ret
  exact ⟨rfl, rfl⟩

set_option maxHeartbeats 400000 in
/-- The sum overflows: the law says true at once. -/
theorem walk_over (s : ByteArray) (i n : Int) (w : World) (hs : s.size ≤ 1048576) (h : (0 < n ∧ wrap64 (i + n) < i) ∨ (n < 0 ∧ i < wrap64 (i + n))) :
    Calls Try.prog 3 #[.string s, .int .i64 i, .int .i64 n] w fun e w' => e = .returned (.bool true) ∧ w' = w := by
  rcases h with ⟨h, k⟩ | ⟨h, k⟩
  · go_enter Try.func3, Try.ntmps3
    go_wp2_with (go_at_call 7; refine (bytes7 s i n _ hs).mono ?_; rintro e w' ⟨rfl, rfl⟩)
    go_ret
    exact ⟨rfl, rfl⟩
  · go_enter Try.func3, Try.ntmps3
    go_wp2_with (go_at_call 7; refine (bytes7 s i n _ hs).mono ?_; rintro e w' ⟨rfl, rfl⟩)
    go_ret
    exact ⟨rfl, rfl⟩

set_option maxHeartbeats 400000 in
theorem walk_fits (s : ByteArray) (i n : Int) (w : World) (hs : s.size ≤ 1048576) (bi : -9223372036854775808 ≤ i ∧ i ≤ 9223372036854775807) (bs : -9223372036854775808 ≤ i + n ∧ i + n ≤ 9223372036854775807) :
    Calls Try.prog 3 #[.string s, .int .i64 i, .int .i64 n] w fun e w' => e = .returned (.bool true) ∧ w' = w := by
  have BI : Hid _ := bi
  have BS : Hid _ := bs
  obtain ⟨bi0, bi1⟩ := bi
  obtain ⟨bs0, bs1⟩ := bs
  rcases Int.lt_trichotomy n 0 with h | h | h
  all_goals
    try subst h
    go_enter Try.func3, Try.ntmps3
    go_wp2_with fail
    refine (bytes7 s _ _ _ hs).mono ?_
    rintro e w1 ⟨rfl, rfl⟩
    go_wp2_with fail
    refine (zzdigits_is s i _ _ hs BI.out BS.out).mono ?_
    rintro e w2 ⟨rfl, rfl⟩
    go_wp2_with fail
    refine (model_any s i _ _ hs BI.out BS.out).mono ?_
    rintro e w3 ⟨rfl, rfl⟩
    go_wp2
    go_ret
    exact ⟨rfl, rfl⟩

theorem walk (a0 : ByteArray) (a1 : Int) (a2 : Int) (w0 : a0.size ≤ maxLen) (w1 : (Lit.int .i64 a1).wf = true) (w2 : (Lit.int .i64 a2).wf = true) (w : World) :
    Calls Try.prog 3 #[.string a0, .int .i64 a1, .int .i64 a2] w fun e w' => e = .returned (.bool true) ∧ Below w.heap.size w w' := by
  have b1 := bounds_i64 w1
  have b2 := bounds_i64 w2
  have fin : Calls Try.prog 3 #[.string a0, .int .i64 a1, .int .i64 a2] w fun e w' => e = .returned (.bool true) ∧ w' = w := by
    by_cases hl : a0.size ≤ 1048576
    · by_cases h1 : a1 + a2 ≤ 9223372036854775807
      · by_cases h2 : -9223372036854775808 ≤ a1 + a2
        · exact walk_fits a0 a1 a2 w hl b1 ⟨h2, h1⟩
        · exact walk_over a0 a1 a2 w hl (Or.inr ⟨by omega, by unfold wrap64; omega⟩)
      · exact walk_over a0 a1 a2 w hl (Or.inl ⟨by omega, by unfold wrap64; omega⟩)
    · exact walk_long a0 a1 a2 w w0 (by omega)
  refine fin.mono ?_
  rintro e w' ⟨rfl, rfl⟩
  exact ⟨rfl, Below.refl _ _⟩

/-! ### THE ROW's STEP: WRITTEN OUT: LEAVE IT -/
set_option maxRecDepth 100000 in
theorem lifted (os : Os) (started : os.Started) (H : Type) (enc : TypeId × Value → H) :
    ReturnsInHanded {} Try.checked os 3 .any (Rows.fnDigitsModelSpec.pre6 enc Try.prog Try.f3 Rows.fnDigitsModelRow.domain false) (Rows.fnDigitsModelSpec.post enc Try.prog Try.f3 false true false false) := by
  refine returnsInHanded_of_change (C := Try.checked) own started (by kernel_rfl) Try.func3
    (ChangeSpec.witness6 (enc := enc) (C := Try.checked) false ⟨#[], #[.string ByteArray.empty, .int .i64 0, .int .i64 0], []⟩ 8 (by kernel_rfl) (by kernel_rfl) (by kernel_rfl) (by kernel_rfl)) ?_
  intro W base args ds gs before hval0 hW hcnd _
  have hval : ∀ (j : Nat) t v, Try.f3.params[j]? = some t → args[j]? = some v → Value.okWide Try.prog W .any base t v := hval0
  have hW' := hW
  obtain ⟨p, q, hA0, hV, rfl, hfz, hnd⟩ := hW
  have hA : DataW.TrodAll enc Try.prog W 0 (fun _ => true) true Try.f3.params.toList args.toList ds p := hA0
  rw [Try.params3] at hA hval
  obtain ⟨v0, vs0, d0, ds0, p0, q0, hargs, rfl, rfl, h0, r0⟩ := trodAll_cons hA
  obtain ⟨v1, vs1, d1, ds1, p1, q1, rfl, rfl, rfl, h1, r1⟩ := trodAll_cons r0
  obtain ⟨v2, vs2, d2, ds2, p2, q2, rfl, rfl, rfl, h2, r2⟩ := trodAll_cons r1
  obtain ⟨rfl, rfl, rfl⟩ := trodAll_nil r2
  obtain rfl : args = #[v0, v1, v2] := by cases args; simp_all
  obtain ⟨rfl, rfl⟩ := trodVars_none hV
  obtain ⟨a0, rfl, rfl, rfl, w0⟩ := open_string Try.underlying9 (hval 0 9 v0 rfl rfl) h0
  obtain ⟨a1, rfl, rfl, rfl, w1⟩ := open_int Try.underlying3 (hval 1 3 v1 rfl rfl) h1
  obtain ⟨a2, rfl, rfl, rfl, w2⟩ := open_int Try.underlying3 (hval 2 3 v2 rfl rfl) h2
  clear hA0 hval0
  simp only [List.append_nil] at hW'
  refine (walk a0 a1 a2 w0 w1 w2 W).mono fun e W' ⟨he, hg⟩ => ?_
  subst he
  exact ⟨_, rfl, post_of_below (pa := []) (pv := []) hW' (fun _ _ _ => (trodAll_cons_mk (shut_bool Try.underlying4 _) trodAll_mk0)) (fun sp _ => (trodAll_cons_mk (shut_string Try.underlying9 w0) (trodAll_cons_mk (shut_int Try.underlying3 w1) (trodAll_cons_mk (shut_int Try.underlying3 w2) trodAll_mk0)))) (fun _ _ => rfl) hg⟩

theorem over : Rows.fnDigitsModelRow.holds Try.pinned (OpenSpec.ofChange Rows.fnDigitsModelSpec) :=
  OpenClaim.holds_of_wide 3 Try.f3 rfl rfl rfl rfl rfl rfl rfl ⟨rfl, rfl, rfl, rfl, rfl⟩ rfl rfl rfl rfl rfl (by kernel_rfl) Try.func3 (by kernel_rfl)
    (of_decide_eq_true (by kernel_rfl)) (by unfold Func.isWrapper; first | (rw [if_pos (by decide +kernel)]; kernel_rfl) | (rw [if_neg (by decide +kernel)]; exact ⟨rfl, rfl⟩))
    (fun os started H enc _ => lifted os started H enc)

/-- ████ THE STATEMENT ████ -/
theorem proved : Rows.FnDigitsModelSaid :=
  over
end Go.Proofs.Qxb6602833a.fnDigitsModel
