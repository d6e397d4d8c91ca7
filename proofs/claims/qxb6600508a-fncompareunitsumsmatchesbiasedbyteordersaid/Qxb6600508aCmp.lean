import Derived.Test.Qxb6600508aKit
namespace Go.Proofs.Qxb6600508a.Cmp
open Go.ChangeShapes Go.WideShapes Go.ChangeAt Go.RowKit

/-- What 'compare' answers: the order of the pairs (high half first). -/
def cmp (a b c d : Int) : Int := if a = c then (if b = d then 0 else if b < d then -1 else 1) else if a < c then -1 else 1

theorem cmp_eq {a b c d : Int} (h : a = c) (k : b = d) : cmp a b c d = 0 := by simp [cmp, h, k]
theorem cmp_lo_lt {a b c d : Int} (h : a = c) (k : b < d) : cmp a b c d = -1 := by unfold cmp; rw [if_pos h, if_neg (by omega), if_pos k]
theorem cmp_lo_gt {a b c d : Int} (h : a = c) (k : d < b) : cmp a b c d = 1 := by unfold cmp; rw [if_pos h, if_neg (by omega), if_neg (by omega)]
theorem cmp_hi_lt {a b c d : Int} (h : a < c) : cmp a b c d = -1 := by unfold cmp; rw [if_neg (by omega), if_pos h]
theorem cmp_hi_gt {a b c d : Int} (h : c < a) : cmp a b c d = 1 := by unfold cmp; rw [if_neg (by omega), if_neg (by omega)]

set_option maxHeartbeats 400000 in
/-- 'compare' (27): two boxes are laid, the answer is 'cmp'. -/
theorem compare_any (a b c d : Int) (w : World) :
    Calls Try.prog 27 #[.agg #[.int .i64 a, .int .u64 b], .agg #[.int .i64 c, .int .u64 d]] w fun e w' => e = .returned (.int .i64 (cmp a b c d)) ∧ Below w.heap.size w w' := by
  rcases Int.lt_trichotomy a c with h | h | h
  · rw [cmp_hi_lt h]
    go_enter Try.func27, Try.ntmps27
    go_wp2
    go_ret
    exact ⟨rfl, ((Below.refl _ _).alloc (Nat.le_refl _) _).alloc (by simp) _⟩
  · subst h
    rcases Int.lt_trichotomy b d with k | k | k
    · rw [cmp_lo_lt rfl k]
      go_enter Try.func27, Try.ntmps27
      go_wp2
      go_ret
      exact ⟨rfl, ((Below.refl _ _).alloc (Nat.le_refl _) _).alloc (by simp) _⟩
    · subst k
      rw [cmp_eq rfl rfl]
      go_enter Try.func27, Try.ntmps27
      go_wp2
      go_ret
      exact ⟨rfl, ((Below.refl _ _).alloc (Nat.le_refl _) _).alloc (by simp) _⟩
    · rw [cmp_lo_gt rfl k]
      go_enter Try.func27, Try.ntmps27
      go_wp2
      go_ret
      exact ⟨rfl, ((Below.refl _ _).alloc (Nat.le_refl _) _).alloc (by simp) _⟩
  · rw [cmp_hi_gt h]
    go_enter Try.func27, Try.ntmps27
    go_wp2
    go_ret
    exact ⟨rfl, ((Below.refl _ _).alloc (Nat.le_refl _) _).alloc (by simp) _⟩

set_option maxHeartbeats 400000 in
/-- 'ZZcompareUnitSums' (22): the same of four numbers. -/
theorem zzcompare_any (a b c d : Int) (w : World) :
    Calls Try.prog 22 #[.int .i64 a, .int .u64 b, .int .i64 c, .int .u64 d] w fun e w' => e = .returned (.int .i64 (cmp a b c d)) ∧ Below w.heap.size w w' := by
  go_enter Try.func22, Try.ntmps22
  go_wp2_with (go_at_call 27; refine (compare_any _ _ _ _ _).mono ?_; rintro e w' ⟨rfl, hb⟩)
  go_ret
  exact ⟨rfl, by assumption⟩

/-- The same with the answer named by the caller. -/
theorem zzcompare_is (a b c d r : Int) (hr : cmp a b c d = r) (w : World) :
    Calls Try.prog 22 #[.int .i64 a, .int .u64 b, .int .i64 c, .int .u64 d] w fun e w' => e = .returned (.int .i64 r) ∧ Below w.heap.size w w' := by
  subst hr
  exact zzcompare_any a b c d w

end Go.Proofs.Qxb6600508a.Cmp
