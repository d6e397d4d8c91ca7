/-
  The statement 'Rows.FnCompareUnitSumsIsAntisymmetricSaid', proved. The frame is the given shell's; the walk and its contracts are ours.
-/
import Derived.Test.Qxb6600508aRows
import Derived.WalkKit
import Derived.ProofKit
import Derived.OpenShut
import Derived.ShutString
import Derived.Test.Qxb6600508aKit
import Derived.Test.Qxb6600508aCmp
namespace Go.Proofs.Qxb6600508a.fnCompareUnitSumsIsAntisymmetric
open Go.ChangeShapes Go.WideShapes Go.ChangeAt Go.RowKit Kit
open Go.ChangeMaps (open_string shut_string)
set_option linter.unusedVariables false      -- a walk need not use every 'w<i>' (that an integer argument fits its kind)


/-! ### THE WALK: the Go text returns true and turns nothing that was there -/
set_option maxHeartbeats 400000 in
/-- One way through: the three answers are known ahead. -/
theorem way (a b c d r s : Int) (w : World) (h1 : Hid (Cmp.cmp a b c d = r)) (h2 : Hid (Cmp.cmp c d a b = s)) (h3 : Hid (Cmp.cmp a b a b = 0))
    (hr : (r = -1 ∧ s = 1 ∧ (a < c ∨ (a = c ∧ b < d))) ∨ (r = 1 ∧ s = -1 ∧ (c < a ∨ (a = c ∧ d < b))) ∨ (r = 0 ∧ s = 0 ∧ a = c ∧ b = d)) :
    Calls Try.prog 11 #[.int .i64 a, .int .u64 b, .int .i64 c, .int .u64 d] w fun e w' => e = .returned (.bool true) ∧ Below w.heap.size w w' := by
  rcases hr with ⟨rfl, rfl, h | ⟨h, k⟩⟩ | ⟨rfl, rfl, h | ⟨h, k⟩⟩ | ⟨rfl, rfl, h, k⟩
  all_goals
    try subst h
    try subst k
    try have hbd : (b == d) = false := by rw [beq_eq_false_iff_ne]; omega
    go_enter Try.func11, Try.ntmps11
    go_wp2_with fail
    refine (Cmp.zzcompare_is _ _ _ _ _ h1.out _).mono ?_
    rintro e w1 ⟨rfl, hb1⟩
    go_wp2_with fail
    refine (Cmp.zzcompare_is _ _ _ _ _ h2.out _).mono ?_
    rintro e w2 ⟨rfl, hb2⟩
    go_wp2_with fail
    refine (Cmp.zzcompare_is _ _ _ _ _ h3.out _).mono ?_
    rintro e w3 ⟨rfl, hb3⟩
    go_wp2
    go_ret
    exact ⟨rfl, (hb1.trans (hb2.mono hb1.size)).trans (hb3.mono (Nat.le_trans hb1.size hb2.size))⟩

theorem walk (a0 : Int) (a1 : Int) (a2 : Int) (a3 : Int) (w0 : (Lit.int .i64 a0).wf = true) (w1 : (Lit.int .u64 a1).wf = true) (w2 : (Lit.int .i64 a2).wf = true) (w3 : (Lit.int .u64 a3).wf = true) (w : World) :
    Calls Try.prog 11 #[.int .i64 a0, .int .u64 a1, .int .i64 a2, .int .u64 a3] w fun e w' => e = .returned (.bool true) ∧ Below w.heap.size w w' := by
  have h3 : Cmp.cmp a0 a1 a0 a1 = 0 := Cmp.cmp_eq rfl rfl
  rcases Int.lt_trichotomy a0 a2 with h | h | h
  · exact way _ _ _ _ _ _ w (Cmp.cmp_hi_lt h) (Cmp.cmp_hi_gt h) h3 (Or.inl ⟨rfl, rfl, Or.inl h⟩)
  · rcases Int.lt_trichotomy a1 a3 with k | k | k
    · exact way _ _ _ _ _ _ w (Cmp.cmp_lo_lt h k) (Cmp.cmp_lo_gt h.symm k) h3 (Or.inl ⟨rfl, rfl, Or.inr ⟨h, k⟩⟩)
    · exact way _ _ _ _ _ _ w (Cmp.cmp_eq h k) (Cmp.cmp_eq h.symm k.symm) h3 (Or.inr (Or.inr ⟨rfl, rfl, h, k⟩))
    · exact way _ _ _ _ _ _ w (Cmp.cmp_lo_gt h k) (Cmp.cmp_lo_lt h.symm k) h3 (Or.inr (Or.inl ⟨rfl, rfl, Or.inr ⟨h, k⟩⟩))
  · exact way _ _ _ _ _ _ w (Cmp.cmp_hi_gt h) (Cmp.cmp_hi_lt h) h3 (Or.inr (Or.inl ⟨rfl, rfl, Or.inl h⟩))

/-! ### THE ROW's STEP: WRITTEN OUT: LEAVE IT -/
set_option maxRecDepth 100000 in
theorem lifted (os : Os) (started : os.Started) (H : Type) (enc : TypeId × Value → H) :
    ReturnsInHanded {} Try.checked os 11 .any (Rows.fnCompareUnitSumsIsAntisymmetricSpec.pre6 enc Try.prog Try.f11 Rows.fnCompareUnitSumsIsAntisymmetricRow.domain false) (Rows.fnCompareUnitSumsIsAntisymmetricSpec.post enc Try.prog Try.f11 false true false false) := by
  refine returnsInHanded_of_change (C := Try.checked) own started (by kernel_rfl) Try.func11
    (ChangeSpec.witness6 (enc := enc) (C := Try.checked) false ⟨#[], #[.int .i64 0, .int .u64 0, .int .i64 0, .int .u64 0], []⟩ 8 (by kernel_rfl) (by kernel_rfl) (by kernel_rfl) (by kernel_rfl)) ?_
  intro W base args ds gs before hval0 hW hcnd _
  have hval : ∀ (j : Nat) t v, Try.f11.params[j]? = some t → args[j]? = some v → Value.okWide Try.prog W .any base t v := hval0
  have hW' := hW
  obtain ⟨p, q, hA0, hV, rfl, hfz, hnd⟩ := hW
  have hA : DataW.TrodAll enc Try.prog W 0 (fun _ => true) true Try.f11.params.toList args.toList ds p := hA0
  rw [Try.params11] at hA hval
  obtain ⟨v0, vs0, d0, ds0, p0, q0, hargs, rfl, rfl, h0, r0⟩ := trodAll_cons hA
  obtain ⟨v1, vs1, d1, ds1, p1, q1, rfl, rfl, rfl, h1, r1⟩ := trodAll_cons r0
  obtain ⟨v2, vs2, d2, ds2, p2, q2, rfl, rfl, rfl, h2, r2⟩ := trodAll_cons r1
  obtain ⟨v3, vs3, d3, ds3, p3, q3, rfl, rfl, rfl, h3, r3⟩ := trodAll_cons r2
  obtain ⟨rfl, rfl, rfl⟩ := trodAll_nil r3
  obtain rfl : args = #[v0, v1, v2, v3] := by cases args; simp_all
  obtain ⟨rfl, rfl⟩ := trodVars_none hV
  obtain ⟨a0, rfl, rfl, rfl, w0⟩ := open_int Try.underlying2 (hval 0 2 v0 rfl rfl) h0
  obtain ⟨a1, rfl, rfl, rfl, w1⟩ := open_int Try.underlying33 (hval 1 33 v1 rfl rfl) h1
  obtain ⟨a2, rfl, rfl, rfl, w2⟩ := open_int Try.underlying2 (hval 2 2 v2 rfl rfl) h2
  obtain ⟨a3, rfl, rfl, rfl, w3⟩ := open_int Try.underlying33 (hval 3 33 v3 rfl rfl) h3
  clear hA0 hval0
  simp only [List.append_nil] at hW'
  refine (walk a0 a1 a2 a3 w0 w1 w2 w3 W).mono fun e W' ⟨he, hg⟩ => ?_
  subst he
  exact ⟨_, rfl, post_of_below (pa := []) (pv := []) hW' (fun _ _ _ => (trodAll_cons_mk (shut_bool Try.underlying4 _) trodAll_mk0)) (fun sp _ => (trodAll_cons_mk (shut_int Try.underlying2 w0) (trodAll_cons_mk (shut_int Try.underlying33 w1) (trodAll_cons_mk (shut_int Try.underlying2 w2) (trodAll_cons_mk (shut_int Try.underlying33 w3) trodAll_mk0))))) (fun _ _ => rfl) hg⟩

theorem over : Rows.fnCompareUnitSumsIsAntisymmetricRow.holds Try.pinned (OpenSpec.ofChange Rows.fnCompareUnitSumsIsAntisymmetricSpec) :=
  OpenClaim.holds_of_wide 11 Try.f11 rfl rfl rfl rfl rfl rfl rfl ⟨rfl, rfl, rfl, rfl, rfl⟩ rfl rfl rfl rfl rfl (by kernel_rfl) Try.func11 (by kernel_rfl)
    (of_decide_eq_true (by kernel_rfl)) (by unfold Func.isWrapper; first | (rw [if_pos (by decide +kernel)]; kernel_rfl) | (rw [if_neg (by decide +kernel)]; exact ⟨rfl, rfl⟩))
    (fun os started H enc _ => lifted os started H enc)

/-- ████ THE STATEMENT ████ -/
theorem proved : Rows.FnCompareUnitSumsIsAntisymmetricSaid :=
  over
end Go.Proofs.Qxb6600508a.fnCompareUnitSumsIsAntisymmetric
