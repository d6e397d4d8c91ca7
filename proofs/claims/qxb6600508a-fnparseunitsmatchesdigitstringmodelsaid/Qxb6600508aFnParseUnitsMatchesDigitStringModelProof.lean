/-
  The statement 'Rows.FnParseUnitsMatchesDigitStringModelSaid', proved. The frame is the given shell's; the walk and its contracts are ours.
-/
import Derived.Test.Qxb6600508aRows
import Derived.WalkKit
import Derived.ProofKit
import Derived.OpenShut
import Derived.ShutString
import Derived.Test.Qxb6600508aKit
import Derived.Test.Qxb6600508aPlain
import Derived.Test.Qxb6600508aParsePlain
import Derived.Test.Qxb6600508aParse
import Derived.Test.Qxb6600508aAll
import Derived.Test.Qxb6600508aFmtPlain
import Derived.Test.Qxb6600508aModelPlain
import Derived.Test.Qxb6600508aPlacePlain
import Derived.Test.Qxb6600508aModel
namespace Go.Proofs.Qxb6600508a.fnParseUnitsMatchesDigitStringModel
open Go.ChangeShapes Go.WideShapes Go.ChangeAt Go.RowKit Kit
open Go.ChangeMaps (open_string shut_string)
set_option linter.unusedVariables false      -- a walk need not use every 'w<i>' (that an integer argument fits its kind)


/-! ### THE WALK: the Go text returns true and turns nothing that was there -/
open Plain

set_option maxHeartbeats 400000 in
/-- 'zzBytes_FnParseUnitsMatchesDigitStringModel' (17). -/
theorem bytes17 (s : ByteArray) (pl : Int) (w : World) (hs : s.size ≤ 1048576) : Calls Try.prog 17 #[.string s, .int .i32 pl] w fun e w' => e = .returned (.bool true) ∧ w' = w := by
  go_enter Try.func17, Try.ntmps17
  go_wp2
  go_ret
  exact ⟨rfl, rfl⟩

set_option maxHeartbeats 400000 in
/-- A long string, or places below nought: the law says true at once. -/
theorem walk_out (s : ByteArray) (pl : Int) (w : World) (hs : s.size ≤ maxLen) (hl : 65536 < s.size ∨ (s.size ≤ 65536 ∧ pl < 0)) :
    Calls Try.prog 6 #[.string s, .int .i32 pl] w fun e w' => e = .returned (.bool true) ∧ w' = w := by
  unfold maxLen at hs
  rcases hl with hl | ⟨hl, hp⟩
  · by_cases hz : s.size ≤ 1048576
    · go_enter Try.func6, Try.ntmps6
      go_wp2_with (go_at_call 17; refine (bytes17 s pl _ hz).mono ?_; rintro e w' ⟨rfl, rfl⟩)
      go_ret
      exact ⟨rfl, rfl⟩
    · go_enter Try.func6, Try.ntmps6
      go_wp2
      go_ret
      exact ⟨rfl, rfl⟩
  · go_enter Try.func6, Try.ntmps6
    go_wp2_with (go_at_call 17; refine (bytes17 s pl _ (by omega)).mono ?_; rintro e w' ⟨rfl, rfl⟩)
    go_ret
    exact ⟨rfl, rfl⟩

set_option maxHeartbeats 400000 in
theorem walk_in (s : ByteArray) (pl : Int) (w : World) (hl : s.size ≤ 65536) (hp0 : 0 ≤ pl) (hp1 : pl ≤ 2147483647) :
    Calls Try.prog 6 #[.string s, .int .i32 pl] w fun e w' => e = .returned (.bool true) ∧ w' = w := by
  obtain ⟨r, b, hr⟩ : ∃ r b, pgo pl true 0 (-1) s.data.toList = (r, b) := ⟨_, _, rfl⟩
  have HR : Hid _ := hr
  clear hr
  go_enter Try.func6, Try.ntmps6
  go_wp2_with fail
  refine (bytes17 s pl _ (by omega)).mono ?_
  rintro e w1 ⟨rfl, rfl⟩
  go_wp2_with fail
  refine (Parse.zzparse_is s pl _ (by omega) hp0 hp1 r b HR.out).mono ?_
  rintro e w2 ⟨rfl, rfl⟩
  go_wp2_with fail
  refine (Model.model_is s pl _ hl hp0 hp1 r b HR.out).mono ?_
  rintro e w3 ⟨rfl, rfl⟩
  go_wp2
  go_ret
  exact ⟨rfl, rfl⟩

theorem walk (a0 : ByteArray) (a1 : Int) (w0 : a0.size ≤ maxLen) (w1 : (Lit.int .i32 a1).wf = true) (w : World) :
    Calls Try.prog 6 #[.string a0, .int .i32 a1] w fun e w' => e = .returned (.bool true) ∧ Below w.heap.size w w' := by
  have b1 := bounds_i32 w1
  have fin : Calls Try.prog 6 #[.string a0, .int .i32 a1] w fun e w' => e = .returned (.bool true) ∧ w' = w := by
    by_cases hl : a0.size ≤ 65536
    · by_cases hp : 0 ≤ a1
      · exact walk_in a0 a1 w hl hp b1.2
      · exact walk_out a0 a1 w w0 (Or.inr ⟨hl, by omega⟩)
    · exact walk_out a0 a1 w w0 (Or.inl (by omega))
  refine fin.mono ?_
  rintro e w' ⟨rfl, rfl⟩
  exact ⟨rfl, Below.refl _ _⟩

/-! ### THE ROW's STEP: WRITTEN OUT: LEAVE IT -/
set_option maxRecDepth 100000 in
theorem lifted (os : Os) (started : os.Started) (H : Type) (enc : TypeId × Value → H) :
    ReturnsInHanded {} Try.checked os 6 .any (Rows.fnParseUnitsMatchesDigitStringModelSpec.pre6 enc Try.prog Try.f6 Rows.fnParseUnitsMatchesDigitStringModelRow.domain false) (Rows.fnParseUnitsMatchesDigitStringModelSpec.post enc Try.prog Try.f6 false true false false) := by
  refine returnsInHanded_of_change (C := Try.checked) own started (by kernel_rfl) Try.func6
    (ChangeSpec.witness6 (enc := enc) (C := Try.checked) false ⟨#[], #[.string ByteArray.empty, .int .i32 0], []⟩ 8 (by kernel_rfl) (by kernel_rfl) (by kernel_rfl) (by kernel_rfl)) ?_
  intro W base args ds gs before hval0 hW hcnd _
  have hval : ∀ (j : Nat) t v, Try.f6.params[j]? = some t → args[j]? = some v → Value.okWide Try.prog W .any base t v := hval0
  have hW' := hW
  obtain ⟨p, q, hA0, hV, rfl, hfz, hnd⟩ := hW
  have hA : DataW.TrodAll enc Try.prog W 0 (fun _ => true) true Try.f6.params.toList args.toList ds p := hA0
  rw [Try.params6] at hA hval
  obtain ⟨v0, vs0, d0, ds0, p0, q0, hargs, rfl, rfl, h0, r0⟩ := trodAll_cons hA
  obtain ⟨v1, vs1, d1, ds1, p1, q1, rfl, rfl, rfl, h1, r1⟩ := trodAll_cons r0
  obtain ⟨rfl, rfl, rfl⟩ := trodAll_nil r1
  obtain rfl : args = #[v0, v1] := by cases args; simp_all
  obtain ⟨rfl, rfl⟩ := trodVars_none hV
  obtain ⟨a0, rfl, rfl, rfl, w0⟩ := open_string Try.underlying9 (hval 0 9 v0 rfl rfl) h0
  obtain ⟨a1, rfl, rfl, rfl, w1⟩ := open_int Try.underlying21 (hval 1 21 v1 rfl rfl) h1
  clear hA0 hval0
  simp only [List.append_nil] at hW'
  refine (walk a0 a1 w0 w1 W).mono fun e W' ⟨he, hg⟩ => ?_
  subst he
  exact ⟨_, rfl, post_of_below (pa := []) (pv := []) hW' (fun _ _ _ => (trodAll_cons_mk (shut_bool Try.underlying4 _) trodAll_mk0)) (fun sp _ => (trodAll_cons_mk (shut_string Try.underlying9 w0) (trodAll_cons_mk (shut_int Try.underlying21 w1) trodAll_mk0))) (fun _ _ => rfl) hg⟩

theorem over : Rows.fnParseUnitsMatchesDigitStringModelRow.holds Try.pinned (OpenSpec.ofChange Rows.fnParseUnitsMatchesDigitStringModelSpec) :=
  OpenClaim.holds_of_wide 6 Try.f6 rfl rfl rfl rfl rfl rfl rfl ⟨rfl, rfl, rfl, rfl, rfl⟩ rfl rfl rfl rfl rfl (by kernel_rfl) Try.func6 (by kernel_rfl)
    (of_decide_eq_true (by kernel_rfl)) (by unfold Func.isWrapper; first | (rw [if_pos (by decide +kernel)]; kernel_rfl) | (rw [if_neg (by decide +kernel)]; exact ⟨rfl, rfl⟩))
    (fun os started H enc _ => lifted os started H enc)

/-- ████ THE STATEMENT ████ -/
theorem proved : Rows.FnParseUnitsMatchesDigitStringModelSaid :=
  over
end Go.Proofs.Qxb6600508a.fnParseUnitsMatchesDigitStringModel
