/-
  The statement 'Rows.FnCompareUnitSumsAgreesWithInt64Said', proved. The frame is the given shell's; the walk and its contracts are ours.
-/
import Derived.Test.Qxb6600508aRows
import Derived.WalkKit
import Derived.ProofKit
import Derived.OpenShut
import Derived.ShutString
import Derived.Test.Qxb6600508aKit
import Derived.Test.Qxb6600508aCmp
namespace Go.Proofs.Qxb6600508a.fnCompareUnitSumsAgreesWithInt64
open Go.ChangeShapes Go.WideShapes Go.ChangeAt Go.RowKit Kit
open Go.ChangeMaps (open_string shut_string)
set_option linter.unusedVariables false      -- a walk need not use every 'w<i>' (that an integer argument fits its kind)


/-! ### THE WALK: the Go text returns true and turns nothing that was there -/
open Cmp in
theorem plain_lt {x y : Int} (hx : -9223372036854775808 ≤ x ∧ x ≤ 9223372036854775807) (hy : -9223372036854775808 ≤ y ∧ y ≤ 9223372036854775807) (h : x < y) :
    cmp (x / 9223372036854775808) (IntKind.u64.wrap x) (y / 9223372036854775808) (IntKind.u64.wrap y) = -1 := by
  rw [IntKind.wrap_u64, IntKind.wrap_u64]
  unfold cmp
  split
  · rw [if_neg (by omega), if_pos (by omega)]
  · rw [if_pos (by omega)]

open Cmp in
theorem plain_gt {x y : Int} (hx : -9223372036854775808 ≤ x ∧ x ≤ 9223372036854775807) (hy : -9223372036854775808 ≤ y ∧ y ≤ 9223372036854775807) (h : y < x) :
    cmp (x / 9223372036854775808) (IntKind.u64.wrap x) (y / 9223372036854775808) (IntKind.u64.wrap y) = 1 := by
  rw [IntKind.wrap_u64, IntKind.wrap_u64]
  unfold cmp
  split
  · rw [if_neg (by omega), if_neg (by omega)]
  · rw [if_neg (by omega)]

theorem walk (a0 : Int) (a1 : Int) (w0 : (Lit.int .i64 a0).wf = true) (w1 : (Lit.int .i64 a1).wf = true) (w : World) :
    Calls Try.prog 10 #[.int .i64 a0, .int .i64 a1] w fun e w' => e = .returned (.bool true) ∧ Below w.heap.size w w' := by
  have b0 := bounds_i64 w0
  have b1 := bounds_i64 w1
  rcases Int.lt_trichotomy a0 a1 with h | h | h
  · have hp : Hid _ := plain_lt b0 b1 h
    clear b0 b1
    go_enter Try.func10, Try.ntmps10
    go_wp2_with (go_at_call 22; refine (Cmp.zzcompare_is _ _ _ _ _ hp.out _).mono ?_; rintro e w' ⟨rfl, hb⟩)
    go_ret
    exact ⟨rfl, by assumption⟩
  · subst h
    have hp : Hid _ := Cmp.cmp_eq (a := a0 / 9223372036854775808) (b := IntKind.u64.wrap a0) rfl rfl
    clear b0 b1
    go_enter Try.func10, Try.ntmps10
    go_wp2_with (go_at_call 22; refine (Cmp.zzcompare_is _ _ _ _ _ hp.out _).mono ?_; rintro e w' ⟨rfl, hb⟩)
    go_ret
    exact ⟨rfl, by assumption⟩
  · have hp : Hid _ := plain_gt b0 b1 h
    clear b0 b1
    go_enter Try.func10, Try.ntmps10
    go_wp2_with (go_at_call 22; refine (Cmp.zzcompare_is _ _ _ _ _ hp.out _).mono ?_; rintro e w' ⟨rfl, hb⟩)
    go_ret
    exact ⟨rfl, by assumption⟩

/-! ### THE ROW's STEP: WRITTEN OUT: LEAVE IT -/
set_option maxRecDepth 100000 in
theorem lifted (os : Os) (started : os.Started) (H : Type) (enc : TypeId × Value → H) :
    ReturnsInHanded {} Try.checked os 10 .any (Rows.fnCompareUnitSumsAgreesWithInt64Spec.pre6 enc Try.prog Try.f10 Rows.fnCompareUnitSumsAgreesWithInt64Row.domain false) (Rows.fnCompareUnitSumsAgreesWithInt64Spec.post enc Try.prog Try.f10 false true false false) := by
  refine returnsInHanded_of_change (C := Try.checked) own started (by kernel_rfl) Try.func10
    (ChangeSpec.witness6 (enc := enc) (C := Try.checked) false ⟨#[], #[.int .i64 0, .int .i64 0], []⟩ 8 (by kernel_rfl) (by kernel_rfl) (by kernel_rfl) (by kernel_rfl)) ?_
  intro W base args ds gs before hval0 hW hcnd _
  have hval : ∀ (j : Nat) t v, Try.f10.params[j]? = some t → args[j]? = some v → Value.okWide Try.prog W .any base t v := hval0
  have hW' := hW
  obtain ⟨p, q, hA0, hV, rfl, hfz, hnd⟩ := hW
  have hA : DataW.TrodAll enc Try.prog W 0 (fun _ => true) true Try.f10.params.toList args.toList ds p := hA0
  rw [Try.params10] at hA hval
  obtain ⟨v0, vs0, d0, ds0, p0, q0, hargs, rfl, rfl, h0, r0⟩ := trodAll_cons hA
  obtain ⟨v1, vs1, d1, ds1, p1, q1, rfl, rfl, rfl, h1, r1⟩ := trodAll_cons r0
  obtain ⟨rfl, rfl, rfl⟩ := trodAll_nil r1
  obtain rfl : args = #[v0, v1] := by cases args; simp_all
  obtain ⟨rfl, rfl⟩ := trodVars_none hV
  obtain ⟨a0, rfl, rfl, rfl, w0⟩ := open_int Try.underlying2 (hval 0 2 v0 rfl rfl) h0
  obtain ⟨a1, rfl, rfl, rfl, w1⟩ := open_int Try.underlying2 (hval 1 2 v1 rfl rfl) h1
  clear hA0 hval0
  simp only [List.append_nil] at hW'
  refine (walk a0 a1 w0 w1 W).mono fun e W' ⟨he, hg⟩ => ?_
  subst he
  exact ⟨_, rfl, post_of_below (pa := []) (pv := []) hW' (fun _ _ _ => (trodAll_cons_mk (shut_bool Try.underlying4 _) trodAll_mk0)) (fun sp _ => (trodAll_cons_mk (shut_int Try.underlying2 w0) (trodAll_cons_mk (shut_int Try.underlying2 w1) trodAll_mk0))) (fun _ _ => rfl) hg⟩

theorem over : Rows.fnCompareUnitSumsAgreesWithInt64Row.holds Try.pinned (OpenSpec.ofChange Rows.fnCompareUnitSumsAgreesWithInt64Spec) :=
  OpenClaim.holds_of_wide 10 Try.f10 rfl rfl rfl rfl rfl rfl rfl ⟨rfl, rfl, rfl, rfl, rfl⟩ rfl rfl rfl rfl rfl (by kernel_rfl) Try.func10 (by kernel_rfl)
    (of_decide_eq_true (by kernel_rfl)) (by unfold Func.isWrapper; first | (rw [if_pos (by decide +kernel)]; kernel_rfl) | (rw [if_neg (by decide +kernel)]; exact ⟨rfl, rfl⟩))
    (fun os started H enc _ => lifted os started H enc)

/-- ████ THE STATEMENT ████ -/
theorem proved : Rows.FnCompareUnitSumsAgreesWithInt64Said :=
  over
end Go.Proofs.Qxb6600508a.fnCompareUnitSumsAgreesWithInt64
