/-
  The statement 'Rows.FnDigitsMatchesPlaceValueModelSaid', proved. The frame is the given shell's; the walk and its contracts are ours.
-/
import Derived.Test.Qxb6600508aRows
import Derived.WalkKit
import Derived.ProofKit
import Derived.OpenShut
import Derived.ShutString
import Derived.Test.Qxb6600508aKit
import Derived.Test.Qxb6600508aPlain
import Derived.Test.Qxb6600508aDig
import Derived.Test.Qxb6600508aAll
import Derived.Test.Qxb6600508aParsePlain
import Derived.Test.Qxb6600508aPlacePlain
namespace Go.Proofs.Qxb6600508a.fnDigitsMatchesPlaceValueModel
open Go.ChangeShapes Go.WideShapes Go.ChangeAt Go.RowKit Kit
open Go.ChangeMaps (open_string shut_string)
set_option linter.unusedVariables false      -- a walk need not use every 'w<i>' (that an integer argument fits its kind)


/-! ### THE WALK: the Go text returns true and turns nothing that was there -/
open Plain

set_option maxHeartbeats 400000 in
/-- A long string: the law says true at once. -/
theorem walk_long (s : ByteArray) (w : World) (hs : s.size ≤ maxLen) (hl : 65536 < s.size) :
    Calls Try.prog 3 #[.string s] w fun e w' => e = .returned (.bool true) ∧ w' = w := by
  unfold maxLen at hs
  by_cases hz : s.size ≤ 1048576
  · go_enter Try.func3, Try.ntmps3
    go_wp2_with (go_at_call 12; refine (All.bytes12 s _ hz).mono ?_; rintro e w' ⟨rfl, rfl⟩)
    go_ret
    exact ⟨rfl, rfl⟩
  · go_enter Try.func3, Try.ntmps3
    go_wp2
    go_ret
    exact ⟨rfl, rfl⟩

set_option maxHeartbeats 400000 in
/-- Not all digits. -/
theorem walk_bad (s : ByteArray) (w : World) (hl : s.size ≤ 65536) (hb : Hid (alld s.data.toList = false)) :
    Calls Try.prog 3 #[.string s] w fun e w' => e = .returned (.bool true) ∧ w' = w := by
  have hn : Hid (digN s.data.toList = 0) := by show digN _ = 0; unfold digN; rw [hb.out]; rfl
  go_enter Try.func3, Try.ntmps3
  go_wp2_with fail
  refine (All.bytes12 s _ (by omega)).mono ?_
  rintro e w1 ⟨rfl, rfl⟩
  go_wp2_with fail
  refine (Dig.zzdigits_is s _ (by unfold maxLen; omega) 0 false hn.out hb.out).mono ?_
  rintro e w2 ⟨rfl, rfl⟩
  go_wp2_with fail
  refine (All.all_is s _ (by unfold maxLen; omega) false hb.out).mono ?_
  rintro e w3 ⟨rfl, rfl⟩
  go_wp2
  go_ret
  exact ⟨rfl, rfl⟩

set_option maxHeartbeats 400000 in
/-- Digits alone: the sum from the right. -/
theorem walk_good (s : ByteArray) (w : World) (hl : s.size ≤ 65536) (hb : Hid (alld s.data.toList = true)) :
    Calls Try.prog 3 #[.string s] w fun e w' => e = .returned (.bool true) ∧ w' = w := by
  obtain ⟨V, hV⟩ : ∃ V, digN s.data.toList = V := ⟨_, rfl⟩
  have HV : Hid (digN s.data.toList = V) := hV
  have HW : Hid (V = Go.RowKit.wrap64 (nval s.data.toList)) := by show V = _; rw [← hV]; unfold digN; rw [if_pos hb.out, dval_wrap]
  clear hV
  go_enter Try.func3, Try.ntmps3
  go_wp2_with fail
  refine (All.bytes12 s _ (by omega)).mono ?_
  rintro e w1 ⟨rfl, rfl⟩
  go_wp2_with fail
  refine (Dig.zzdigits_is s _ (by unfold maxLen; omega) V true HV.out hb.out).mono ?_
  rintro e w2 ⟨rfl, rfl⟩
  go_wp2_with fail
  refine (All.all_is s _ (by unfold maxLen; omega) true hb.out).mono ?_
  rintro e w3 ⟨rfl, rfl⟩
  go_wp2
  go_loop [5, 6, 7] (fun x p i => ∃ (q : Nat) (iv X P : Int), q ≤ s.size ∧ -1 ≤ iv ∧ iv ≤ 65536 ∧ Hid (iv = (q : Int) - 1) ∧ x = .int .i64 X ∧ p = .int .i64 P ∧ i = .int .i64 iv ∧ Hid (X = Go.RowKit.wrap64 (nval (s.data.toList.drop q))) ∧ Hid (P = Go.RowKit.wrap64 (10 ^ (s.data.toList.length - q)))) (fun _ _ i => (intOf i + 1).toNat)
  case atStart => exact ⟨s.size, _, 0, 1, Nat.le_refl _, by omega, by omega, rfl, rfl, rfl, rfl, start_x s, start_p s⟩
  case round =>
    obtain ⟨q, iv, X, P, hq, hi0, hi1, hiv, rfl, rfl, rfl, hX, hP⟩ := hrel
    by_cases hpos : 0 ≤ iv
    · obtain ⟨n, rfl⟩ : ∃ n : Nat, iv = n := ⟨iv.toNat, by omega⟩
      have hqn : q = n + 1 := by have := hiv.out; omega
      clear hiv
      subst hqn
      have hn : n < s.size := by omega
      have hd := dig_at s n hn hb.out
      obtain ⟨hd0, hd1⟩ := hd
      have HS : Hid _ := place_step (l := s.data.toList) (n := n) (by simpa using hn) hX.out hP.out
      go_wp2
      go_round
      case rel => exact ⟨n, _, _, _, by omega, by omega, by omega, rfl, rfl, rfl, rfl, HS.out.1, HS.out.2⟩
      case measure => simp [intOf]
    · have hq0 : q = 0 := by have := hiv.out; omega
      have hVX : V = X := by rw [HW.out, hX.out, hq0]; rfl
      subst hVX
      clear hiv hq0
      go_wp2
      go_ret
      exact ⟨rfl, rfl⟩

theorem walk (a0 : ByteArray) (w0 : a0.size ≤ maxLen) (w : World) :
    Calls Try.prog 3 #[.string a0] w fun e w' => e = .returned (.bool true) ∧ Below w.heap.size w w' := by
  have fin : Calls Try.prog 3 #[.string a0] w fun e w' => e = .returned (.bool true) ∧ w' = w := by
    by_cases hl : a0.size ≤ 65536
    · cases hb : alld a0.data.toList
      · exact walk_bad a0 w hl hb
      · exact walk_good a0 w hl hb
    · exact walk_long a0 w w0 (by omega)
  refine fin.mono ?_
  rintro e w' ⟨rfl, rfl⟩
  exact ⟨rfl, Below.refl _ _⟩

/-! ### THE ROW's STEP: WRITTEN OUT: LEAVE IT -/
set_option maxRecDepth 100000 in
theorem lifted (os : Os) (started : os.Started) (H : Type) (enc : TypeId × Value → H) :
    ReturnsInHanded {} Try.checked os 3 .any (Rows.fnDigitsMatchesPlaceValueModelSpec.pre6 enc Try.prog Try.f3 Rows.fnDigitsMatchesPlaceValueModelRow.domain false) (Rows.fnDigitsMatchesPlaceValueModelSpec.post enc Try.prog Try.f3 false true false false) := by
  refine returnsInHanded_of_change (C := Try.checked) own started (by kernel_rfl) Try.func3
    (ChangeSpec.witness6 (enc := enc) (C := Try.checked) false ⟨#[], #[.string ByteArray.empty], []⟩ 8 (by kernel_rfl) (by kernel_rfl) (by kernel_rfl) (by kernel_rfl)) ?_
  intro W base args ds gs before hval0 hW hcnd _
  have hval : ∀ (j : Nat) t v, Try.f3.params[j]? = some t → args[j]? = some v → Value.okWide Try.prog W .any base t v := hval0
  have hW' := hW
  obtain ⟨p, q, hA0, hV, rfl, hfz, hnd⟩ := hW
  have hA : DataW.TrodAll enc Try.prog W 0 (fun _ => true) true Try.f3.params.toList args.toList ds p := hA0
  rw [Try.params3] at hA hval
  obtain ⟨v0, vs0, d0, ds0, p0, q0, hargs, rfl, rfl, h0, r0⟩ := trodAll_cons hA
  obtain ⟨rfl, rfl, rfl⟩ := trodAll_nil r0
  obtain rfl : args = #[v0] := by cases args; simp_all
  obtain ⟨rfl, rfl⟩ := trodVars_none hV
  obtain ⟨a0, rfl, rfl, rfl, w0⟩ := open_string Try.underlying9 (hval 0 9 v0 rfl rfl) h0
  clear hA0 hval0
  simp only [List.append_nil] at hW'
  refine (walk a0 w0 W).mono fun e W' ⟨he, hg⟩ => ?_
  subst he
  exact ⟨_, rfl, post_of_below (pa := []) (pv := []) hW' (fun _ _ _ => (trodAll_cons_mk (shut_bool Try.underlying4 _) trodAll_mk0)) (fun sp _ => (trodAll_cons_mk (shut_string Try.underlying9 w0) trodAll_mk0)) (fun _ _ => rfl) hg⟩

theorem over : Rows.fnDigitsMatchesPlaceValueModelRow.holds Try.pinned (OpenSpec.ofChange Rows.fnDigitsMatchesPlaceValueModelSpec) :=
  OpenClaim.holds_of_wide 3 Try.f3 rfl rfl rfl rfl rfl rfl rfl ⟨rfl, rfl, rfl, rfl, rfl⟩ rfl rfl rfl rfl rfl (by kernel_rfl) Try.func3 (by kernel_rfl)
    (of_decide_eq_true (by kernel_rfl)) (by unfold Func.isWrapper; first | (rw [if_pos (by decide +kernel)]; kernel_rfl) | (rw [if_neg (by decide +kernel)]; exact ⟨rfl, rfl⟩))
    (fun os started H enc _ => lifted os started H enc)

/-- ████ THE STATEMENT ████ -/
theorem proved : Rows.FnDigitsMatchesPlaceValueModelSaid :=
  over
end Go.Proofs.Qxb6600508a.fnDigitsMatchesPlaceValueModel
