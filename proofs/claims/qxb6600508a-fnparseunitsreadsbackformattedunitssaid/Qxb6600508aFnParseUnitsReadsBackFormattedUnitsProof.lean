/-
  The statement 'Rows.FnParseUnitsReadsBackFormattedUnitsSaid', proved. The frame is the given shell's; the walk and its contracts are ours.
-/
import Derived.Test.Qxb6600508aRows
import Derived.WalkKit
import Derived.ProofKit
import Derived.OpenShut
import Derived.ShutString
import Derived.Test.Qxb6600508aKit
import Derived.Test.Qxb6600508aPlain
import Derived.Test.Qxb6600508aParsePlain
import Derived.Test.Qxb6600508aParse
import Derived.Test.Qxb6600508aFmtPlain
import Derived.Test.Qxb6600508aFmt
namespace Go.Proofs.Qxb6600508a.fnParseUnitsReadsBackFormattedUnits
open Go.ChangeShapes Go.WideShapes Go.ChangeAt Go.RowKit Kit
open Go.ChangeMaps (open_string shut_string)
set_option linter.unusedVariables false      -- a walk need not use every 'w<i>' (that an integer argument fits its kind)


/-! ### THE WALK: the Go text returns true and turns nothing that was there -/
open Plain in
set_option maxHeartbeats 400000 in
theorem walk (a0 : Int) (a1 : Int) (w0 : (Lit.int .i64 a0).wf = true) (w1 : (Lit.int .i32 a1).wf = true) (w : World) :
    Calls Try.prog 8 #[.int .i64 a0, .int .i32 a1] w fun e w' => e = .returned (.bool true) ∧ Below w.heap.size w w' := by
  by_cases h1 : a0 < 1
  · go_enter Try.func8, Try.ntmps8
    go_wp2
    go_ret
    exact ⟨rfl, Below.refl _ _⟩
  · by_cases h2 : 999999999999999999 < a0
    · go_enter Try.func8, Try.ntmps8
      go_wp2
      go_ret
      exact ⟨rfl, Below.refl _ _⟩
    · by_cases h3 : a1 < 0
      · go_enter Try.func8, Try.ntmps8
        go_wp2
        go_ret
        exact ⟨rfl, Below.refl _ _⟩
      · by_cases h4 : 65536 < a1
        · go_enter Try.func8, Try.ntmps8
          go_wp2
          go_ret
          exact ⟨rfl, Below.refl _ _⟩
        · go_enter Try.func8, Try.ntmps8
          go_wp2_with fail
          refine (Fmt.fmt_any a0 a1 _ (by omega) (by omega) (by omega) (by omega)).mono ?_
          rintro e w1 ⟨D, rfl, ha, hv, hl, hm, hb⟩
          have hz := fmtD_size a1.toNat D
          have HP : Hid (pgo a1 true 0 (-1) (fmtD a1.toNat D) = (a0, true)) := by
            have h := reads_back a1.toNat D a0 ha hv (by omega) (by omega) (by omega)
            rw [show ((a1.toNat : Nat) : Int) = a1 by omega] at h
            exact h
          clear ha hv
          go_wp2_with fail
          refine (Parse.zzparse_is _ a1 _ (by show (fmtD a1.toNat D).toArray.size ≤ 100000; rw [List.size_toArray]; omega) (by omega) (by omega) a0 true HP).mono ?_
          rintro e w2 ⟨rfl, rfl⟩
          go_wp2
          go_ret
          exact ⟨rfl, hb⟩

/-! ### THE ROW's STEP: WRITTEN OUT: LEAVE IT -/
set_option maxRecDepth 100000 in
theorem lifted (os : Os) (started : os.Started) (H : Type) (enc : TypeId × Value → H) :
    ReturnsInHanded {} Try.checked os 8 .any (Rows.fnParseUnitsReadsBackFormattedUnitsSpec.pre6 enc Try.prog Try.f8 Rows.fnParseUnitsReadsBackFormattedUnitsRow.domain false) (Rows.fnParseUnitsReadsBackFormattedUnitsSpec.post enc Try.prog Try.f8 false true false false) := by
  refine returnsInHanded_of_change (C := Try.checked) own started (by kernel_rfl) Try.func8
    (ChangeSpec.witness6 (enc := enc) (C := Try.checked) false ⟨#[], #[.int .i64 0, .int .i32 0], []⟩ 8 (by kernel_rfl) (by kernel_rfl) (by kernel_rfl) (by kernel_rfl)) ?_
  intro W base args ds gs before hval0 hW hcnd _
  have hval : ∀ (j : Nat) t v, Try.f8.params[j]? = some t → args[j]? = some v → Value.okWide Try.prog W .any base t v := hval0
  have hW' := hW
  obtain ⟨p, q, hA0, hV, rfl, hfz, hnd⟩ := hW
  have hA : DataW.TrodAll enc Try.prog W 0 (fun _ => true) true Try.f8.params.toList args.toList ds p := hA0
  rw [Try.params8] at hA hval
  obtain ⟨v0, vs0, d0, ds0, p0, q0, hargs, rfl, rfl, h0, r0⟩ := trodAll_cons hA
  obtain ⟨v1, vs1, d1, ds1, p1, q1, rfl, rfl, rfl, h1, r1⟩ := trodAll_cons r0
  obtain ⟨rfl, rfl, rfl⟩ := trodAll_nil r1
  obtain rfl : args = #[v0, v1] := by cases args; simp_all
  obtain ⟨rfl, rfl⟩ := trodVars_none hV
  obtain ⟨a0, rfl, rfl, rfl, w0⟩ := open_int Try.underlying2 (hval 0 2 v0 rfl rfl) h0
  obtain ⟨a1, rfl, rfl, rfl, w1⟩ := open_int Try.underlying21 (hval 1 21 v1 rfl rfl) h1
  clear hA0 hval0
  simp only [List.append_nil] at hW'
  refine (walk a0 a1 w0 w1 W).mono fun e W' ⟨he, hg⟩ => ?_
  subst he
  exact ⟨_, rfl, post_of_below (pa := []) (pv := []) hW' (fun _ _ _ => (trodAll_cons_mk (shut_bool Try.underlying4 _) trodAll_mk0)) (fun sp _ => (trodAll_cons_mk (shut_int Try.underlying2 w0) (trodAll_cons_mk (shut_int Try.underlying21 w1) trodAll_mk0))) (fun _ _ => rfl) hg⟩

theorem over : Rows.fnParseUnitsReadsBackFormattedUnitsRow.holds Try.pinned (OpenSpec.ofChange Rows.fnParseUnitsReadsBackFormattedUnitsSpec) :=
  OpenClaim.holds_of_wide 8 Try.f8 rfl rfl rfl rfl rfl rfl rfl ⟨rfl, rfl, rfl, rfl, rfl⟩ rfl rfl rfl rfl rfl (by kernel_rfl) Try.func8 (by kernel_rfl)
    (of_decide_eq_true (by kernel_rfl)) (by unfold Func.isWrapper; first | (rw [if_pos (by decide +kernel)]; kernel_rfl) | (rw [if_neg (by decide +kernel)]; exact ⟨rfl, rfl⟩))
    (fun os started H enc _ => lifted os started H enc)

/-- ████ THE STATEMENT ████ -/
theorem proved : Rows.FnParseUnitsReadsBackFormattedUnitsSaid :=
  over
end Go.Proofs.Qxb6600508a.fnParseUnitsReadsBackFormattedUnits
