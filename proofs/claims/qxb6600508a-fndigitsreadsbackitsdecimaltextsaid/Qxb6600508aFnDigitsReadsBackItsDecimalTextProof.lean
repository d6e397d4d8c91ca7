/-
  The statement 'Rows.FnDigitsReadsBackItsDecimalTextSaid', proved. The frame is the given shell's; the walk and its contracts are ours.
-/
import Derived.Test.Qxb6600508aRows
import Derived.WalkKit
import Derived.ProofKit
import Derived.OpenShut
import Derived.ShutString
import Derived.Test.Qxb6600508aKit
import Derived.Test.Qxb6600508aPlain
import Derived.Test.Qxb6600508aDig
import Derived.Test.Qxb6600508aDec
namespace Go.Proofs.Qxb6600508a.fnDigitsReadsBackItsDecimalText
open Go.ChangeShapes Go.WideShapes Go.ChangeAt Go.RowKit Kit
open Go.ChangeMaps (open_string shut_string)
set_option linter.unusedVariables false      -- a walk need not use every 'w<i>' (that an integer argument fits its kind)


/-! ### THE WALK: the Go text returns true and turns nothing that was there -/
open Plain in
theorem zeros_list (ds : List UInt8) : (({ data := #[48, 48, 48] } : ByteArray) ++ { data := ds.toArray }).data.toList = [48, 48, 48] ++ ds := by simp

open Plain in
theorem zeros_all (ds : List UInt8) (h : alld ds = true) : alld (({ data := #[48, 48, 48] } : ByteArray) ++ { data := ds.toArray }).data.toList = true := by
  rw [zeros_list, alld_append, h]; rfl

open Plain in
theorem zeros_val (ds : List UInt8) (h : alld ds = true) (n : Int) (hn : nval ds = n) (hb : n ≤ 9223372036854775807) : digN (({ data := #[48, 48, 48] } : ByteArray) ++ { data := ds.toArray }).data.toList = n := by
  have e : nval ([48, 48, 48] ++ ds) = n := by
    rw [nval_append, hn]
    have : nval [48, 48, 48] = 0 := by decide
    rw [this]; omega
  rw [digN_nval _ (zeros_all ds h) (by rw [zeros_list, e]; exact hb), zeros_list, e]

open Plain in
set_option maxHeartbeats 400000 in
theorem walk (a0 : Int) (w0 : (Lit.int .i64 a0).wf = true) (w : World) :
    Calls Try.prog 4 #[.int .i64 a0] w fun e w' => e = .returned (.bool true) ∧ Below w.heap.size w w' := by
  have b0 := bounds_i64 w0
  by_cases hneg : a0 < 0
  · go_enter Try.func4, Try.ntmps4
    go_wp2
    go_ret
    exact ⟨rfl, Below.refl _ _⟩
  · go_enter Try.func4, Try.ntmps4
    go_wp2_with fail
    refine (Dec.dec_any a0 _ (by omega) b0.2).mono ?_
    rintro e w1 ⟨ds, rfl, hl, ha, hv, hb⟩
    have HA : Hid (alld ds = true) := ha
    have HV : Hid (digN ds = a0) := by show digN ds = a0; rw [digN_nval ds ha (by omega), hv]
    have HZ : Hid (nval ds = a0) := hv
    clear ha hv
    go_wp2_with fail
    refine (Dig.zzdigits_is _ _ (by simp [maxLen, ByteArray.size]; omega) a0 true HV.out HA.out).mono ?_
    rintro e w2 ⟨rfl, rfl⟩
    go_wp2_with fail
    refine (Dig.zzdigits_is _ _ (by simp [maxLen, ByteArray.size]; omega) a0 true (zeros_val ds HA.out a0 HZ.out b0.2) (zeros_all ds HA.out)).mono ?_
    rintro e w3 ⟨rfl, rfl⟩
    go_wp2
    go_ret
    exact ⟨rfl, hb⟩

/-! ### THE ROW's STEP: WRITTEN OUT: LEAVE IT -/
set_option maxRecDepth 100000 in
theorem lifted (os : Os) (started : os.Started) (H : Type) (enc : TypeId × Value → H) :
    ReturnsInHanded {} Try.checked os 4 .any (Rows.fnDigitsReadsBackItsDecimalTextSpec.pre6 enc Try.prog Try.f4 Rows.fnDigitsReadsBackItsDecimalTextRow.domain false) (Rows.fnDigitsReadsBackItsDecimalTextSpec.post enc Try.prog Try.f4 false true false false) := by
  refine returnsInHanded_of_change (C := Try.checked) own started (by kernel_rfl) Try.func4
    (ChangeSpec.witness6 (enc := enc) (C := Try.checked) false ⟨#[], #[.int .i64 0], []⟩ 8 (by kernel_rfl) (by kernel_rfl) (by kernel_rfl) (by kernel_rfl)) ?_
  intro W base args ds gs before hval0 hW hcnd _
  have hval : ∀ (j : Nat) t v, Try.f4.params[j]? = some t → args[j]? = some v → Value.okWide Try.prog W .any base t v := hval0
  have hW' := hW
  obtain ⟨p, q, hA0, hV, rfl, hfz, hnd⟩ := hW
  have hA : DataW.TrodAll enc Try.prog W 0 (fun _ => true) true Try.f4.params.toList args.toList ds p := hA0
  rw [Try.params4] at hA hval
  obtain ⟨v0, vs0, d0, ds0, p0, q0, hargs, rfl, rfl, h0, r0⟩ := trodAll_cons hA
  obtain ⟨rfl, rfl, rfl⟩ := trodAll_nil r0
  obtain rfl : args = #[v0] := by cases args; simp_all
  obtain ⟨rfl, rfl⟩ := trodVars_none hV
  obtain ⟨a0, rfl, rfl, rfl, w0⟩ := open_int Try.underlying3 (hval 0 3 v0 rfl rfl) h0
  clear hA0 hval0
  simp only [List.append_nil] at hW'
  refine (walk a0 w0 W).mono fun e W' ⟨he, hg⟩ => ?_
  subst he
  exact ⟨_, rfl, post_of_below (pa := []) (pv := []) hW' (fun _ _ _ => (trodAll_cons_mk (shut_bool Try.underlying4 _) trodAll_mk0)) (fun sp _ => (trodAll_cons_mk (shut_int Try.underlying3 w0) trodAll_mk0)) (fun _ _ => rfl) hg⟩

theorem over : Rows.fnDigitsReadsBackItsDecimalTextRow.holds Try.pinned (OpenSpec.ofChange Rows.fnDigitsReadsBackItsDecimalTextSpec) :=
  OpenClaim.holds_of_wide 4 Try.f4 rfl rfl rfl rfl rfl rfl rfl ⟨rfl, rfl, rfl, rfl, rfl⟩ rfl rfl rfl rfl rfl (by kernel_rfl) Try.func4 (by kernel_rfl)
    (of_decide_eq_true (by kernel_rfl)) (by unfold Func.isWrapper; first | (rw [if_pos (by decide +kernel)]; kernel_rfl) | (rw [if_neg (by decide +kernel)]; exact ⟨rfl, rfl⟩))
    (fun os started H enc _ => lifted os started H enc)

/-- ████ THE STATEMENT ████ -/
theorem proved : Rows.FnDigitsReadsBackItsDecimalTextSaid :=
  over
end Go.Proofs.Qxb6600508a.fnDigitsReadsBackItsDecimalText
