import Derived.Test.Qxb6600508aParsePlain
/-! The place-value sum from the right and the reckoning from the left come to the same int. No Go in sight. -/
namespace Go.Proofs.Qxb6600508a.Plain
open Go.RowKit

theorem wrap_add (x y : Int) : wrap64 (x + wrap64 y) = wrap64 (x + y) := by unfold wrap64; omega
theorem wrap_add_left (x y : Int) : wrap64 (wrap64 x + y) = wrap64 (x + y) := by unfold wrap64; omega
theorem wrap_idem (x : Int) : wrap64 (wrap64 x) = wrap64 x := by unfold wrap64; omega
theorem wrap_is (x : Int) : ∃ t : Int, wrap64 x = x + 18446744073709551616 * t := ⟨-((x + 9223372036854775808) / 18446744073709551616), by unfold wrap64; omega⟩
theorem wrap_period (x t : Int) : wrap64 (x + 18446744073709551616 * t) = wrap64 x := by unfold wrap64; omega
theorem wrap_mul (d x : Int) : wrap64 (d * wrap64 x) = wrap64 (d * x) := by
  obtain ⟨t, ht⟩ := wrap_is x
  rw [ht, Int.mul_add, show d * (18446744073709551616 * t) = 18446744073709551616 * (d * t) by rw [← Int.mul_assoc, Int.mul_comm d, Int.mul_assoc], wrap_period]
theorem wrap_mul_left (d x : Int) : wrap64 (wrap64 x * d) = wrap64 (x * d) := by rw [Int.mul_comm, wrap_mul, Int.mul_comm]

theorem dval_wrap (l : List UInt8) : dval l = wrap64 (nval l) := by
  suffices H : ∀ r : List UInt8, dval r.reverse = wrap64 (nval r.reverse) by
    have := H l.reverse
    rw [List.reverse_reverse] at this
    exact this
  intro r
  induction r with
  | nil => unfold wrap64; rfl
  | cons c r ih => rw [List.reverse_cons, dval_snoc, nval_snoc, ih, wrap_mul, wrap_add_left]

/-- One place more, from the right. -/
theorem place_step {l : List UInt8} {n : Nat} (h : n < l.length) {x P : Int} (hx : x = wrap64 (nval (l.drop (n + 1)))) (hP : P = wrap64 (10 ^ (l.length - (n + 1)))) :
    wrap64 (x + wrap64 (((l[n].toNat : Int) - 48) * P)) = wrap64 (nval (l.drop n)) ∧ wrap64 (P * 10) = wrap64 (10 ^ (l.length - n)) := by
  refine ⟨?_, ?_⟩
  · rw [List.drop_eq_getElem_cons h, nval_cons, List.length_drop, hx, hP, wrap_mul, wrap_add, wrap_add_left, Int.add_comm]
  · rw [hP, wrap_mul_left, show l.length - n = (l.length - (n + 1)) + 1 by omega, Int.pow_succ]

theorem start_x (s : ByteArray) : (0 : Int) = wrap64 (nval (s.data.toList.drop s.size)) := by
  rw [drop_all s s.size (Nat.le_refl _), nval_nil]
  unfold wrap64
  omega
theorem start_p (s : ByteArray) : (1 : Int) = wrap64 (10 ^ (s.data.toList.length - s.size)) := by
  have e : s.data.toList.length - s.size = 0 := by rw [Array.length_toList]; exact Nat.sub_self _
  rw [e, Int.pow_zero]
  unfold wrap64
  omega

/-- A byte of a string of digits is one. -/
theorem dig_at (s : ByteArray) (n : Nat) (h : n < s.size) (ha : alld s.data.toList = true) : 48 ≤ (s[n].toNat : Int) ∧ (s[n].toNat : Int) ≤ 57 := by
  refine (digB_iff _).1 ?_
  cases e : digB s[n]
  · rw [alld_bad s n h e] at ha; cases ha
  · rfl

end Go.Proofs.Qxb6600508a.Plain
