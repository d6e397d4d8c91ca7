import Derived.RowKit
/-! The plain mathematics of the seat: digit strings. No Go in sight. -/
namespace Go.Proofs.Qxb6600508a.Plain
open Go.RowKit

/-- A byte is an ASCII digit. -/
def digB (c : UInt8) : Bool := 48 ≤ c.toNat && c.toNat ≤ 57
/-- Every byte is. -/
def alld (l : List UInt8) : Bool := l.all digB
/-- The digits read from the left, in int's wrapping arithmetic, as the text reckons. -/
def dval (l : List UInt8) : Int := l.foldl (fun n c => wrap64 (wrap64 (10 * n) + ((c.toNat : Int) - 48))) 0
/-- What 'digits' answers first. -/
def digN (l : List UInt8) : Int := if alld l = true then dval l else 0

theorem digB_iff (c : UInt8) : digB c = true ↔ 48 ≤ (c.toNat : Int) ∧ (c.toNat : Int) ≤ 57 := by
  unfold digB; simp; omega
theorem digB_not (c : UInt8) (h : ¬ (48 ≤ (c.toNat : Int) ∧ (c.toNat : Int) ≤ 57)) : digB c = false := by
  cases e : digB c
  · rfl
  · exact absurd ((digB_iff c).1 e) h
theorem alld_nil : alld [] = true := rfl
theorem dval_nil : dval [] = 0 := rfl
theorem alld_snoc (l : List UInt8) (c : UInt8) : alld (l ++ [c]) = (alld l && digB c) := by simp [alld]
theorem dval_snoc (l : List UInt8) (c : UInt8) : dval (l ++ [c]) = wrap64 (wrap64 (10 * dval l) + ((c.toNat : Int) - 48)) := by simp [dval]
theorem alld_append (l m : List UInt8) : alld (l ++ m) = (alld l && alld m) := by simp [alld]

theorem take_snoc (s : ByteArray) (k : Nat) (h : k < s.size) : s.data.toList.take (k + 1) = s.data.toList.take k ++ [s[k]] := by
  rw [List.take_succ_eq_append_getElem (by simpa using h)]; rfl

theorem take_all (s : ByteArray) (k : Nat) (h : s.size ≤ k) : s.data.toList.take k = s.data.toList := List.take_of_length_le (by simpa using h)

/-- One byte that is no digit: the whole is none. -/
theorem alld_bad (s : ByteArray) (k : Nat) (h : k < s.size) (hb : digB s[k] = false) : alld s.data.toList = false := by
  have e : s.data.toList = s.data.toList.take (k + 1) ++ s.data.toList.drop (k + 1) := (List.take_append_drop _ _).symm
  rw [e, alld_append, take_snoc s k h, alld_snoc, hb]
  simp

/-- The digits' value, without a wrap. -/
def nval (l : List UInt8) : Int := l.foldl (fun n c => 10 * n + ((c.toNat : Int) - 48)) 0

theorem nval_nil : nval [] = 0 := rfl
theorem nval_snoc (l : List UInt8) (c : UInt8) : nval (l ++ [c]) = 10 * nval l + ((c.toNat : Int) - 48) := by simp [nval]

theorem fold_from (l : List UInt8) : ∀ n : Int, l.foldl (fun n c => 10 * n + ((c.toNat : Int) - 48)) n = n * 10 ^ l.length + nval l := by
  induction l with
  | nil => intro n; simp [nval]
  | cons c l ih =>
    intro n
    unfold nval
    rw [List.foldl_cons, List.foldl_cons, ih, ih (10 * 0 + _), List.length_cons, Int.pow_succ]
    have e : (10 * n + ((c.toNat : Int) - 48)) * 10 ^ l.length = n * (10 ^ l.length * 10) + ((c.toNat : Int) - 48) * 10 ^ l.length := by
      rw [Int.add_mul, Int.mul_comm 10 n, Int.mul_assoc, Int.mul_comm 10 (10 ^ l.length)]
    rw [e]
    simp
    omega

theorem nval_cons (c : UInt8) (l : List UInt8) : nval (c :: l) = ((c.toNat : Int) - 48) * 10 ^ l.length + nval l := by
  have h := fold_from l (10 * 0 + ((c.toNat : Int) - 48))
  unfold nval
  rw [List.foldl_cons, h]
  simp [nval]

theorem nval_append (l m : List UInt8) : nval (l ++ m) = nval l * 10 ^ m.length + nval m := by
  have h := fold_from m (nval l)
  rw [← h]
  simp [nval]

theorem alld_cons (c : UInt8) (l : List UInt8) : alld (c :: l) = (digB c && alld l) := by simp [alld]

/-- Digits count from nought up to 10 to the power of their number. -/
theorem nval_range (l : List UInt8) (h : alld l = true) : 0 ≤ nval l ∧ nval l < 10 ^ l.length := by
  induction l with
  | nil => simp [nval]
  | cons c l ih =>
    rw [alld_cons, Bool.and_eq_true] at h
    obtain ⟨i0, i1⟩ := ih h.2
    have hd := (digB_iff c).1 h.1
    rw [nval_cons, List.length_cons, Int.pow_succ]
    have hm0 : 0 ≤ ((c.toNat : Int) - 48) * 10 ^ l.length := Int.mul_nonneg (by omega) (by omega)
    have hm1 : ((c.toNat : Int) - 48) * 10 ^ l.length ≤ 9 * 10 ^ l.length := Int.mul_le_mul_of_nonneg_right (by omega) (by omega)
    omega

/-- Where the value fits an int the wrapping reckoning comes to it: every step of it fits. -/
theorem dval_nval (l : List UInt8) (h : alld l = true) (hb : nval l ≤ 9223372036854775807) : dval l = nval l := by
  suffices H : ∀ r : List UInt8, alld r.reverse = true → nval r.reverse ≤ 9223372036854775807 → dval r.reverse = nval r.reverse by
    have := H l.reverse
    rw [List.reverse_reverse] at this
    exact this h hb
  intro r
  induction r with
  | nil => intro _ _; rfl
  | cons c r ih =>
    intro ha hb
    rw [List.reverse_cons] at ha hb ⊢
    rw [alld_snoc, Bool.and_eq_true] at ha
    have hd := (digB_iff c).1 ha.2
    have hr := nval_range _ ha.1
    rw [nval_snoc] at hb ⊢
    rw [dval_snoc, ih ha.1 (by omega)]
    unfold wrap64
    omega

theorem digN_nval (l : List UInt8) (h : alld l = true) (hb : nval l ≤ 9223372036854775807) : digN l = nval l := by
  unfold digN
  rw [if_pos h, dval_nval l h hb]

/-- The byte that is written for a number's last digit. -/
def lastB (m : Int) : UInt8 := UInt8.ofNat (48 + m % 10).toNat

theorem lastB_nat (m : Int) : ((lastB m).toNat : Int) = 48 + m % 10 := by
  unfold lastB
  rw [UInt8.toNat_ofNat']
  omega

theorem lastB_dig (m : Int) : digB (lastB m) = true := (digB_iff _).2 (by rw [lastB_nat]; omega)

/-- A number cut at its last digit: one digit more is written, one fewer is left. -/
theorem cut_step {n m : Int} {ds : List UInt8} (h : n = m * 10 ^ ds.length + nval ds) : n = m / 10 * 10 ^ (lastB m :: ds).length + nval (lastB m :: ds) := by
  rw [nval_cons, lastB_nat, List.length_cons, Int.pow_succ, h]
  have e : m * 10 ^ ds.length = m / 10 * (10 ^ ds.length * 10) + (m % 10) * 10 ^ ds.length := by
    have hm : m = m / 10 * 10 + m % 10 := by omega
    rw [← Int.mul_comm 10 (10 ^ ds.length), ← Int.mul_assoc, ← Int.add_mul, ← hm]
  have e2 : (48 + m % 10 - 48) = m % 10 := by omega
  rw [e2]
  omega

theorem pow_mono {a b : Nat} (h : a ≤ b) : (10 : Int) ^ a ≤ 10 ^ b := by
  have := Nat.pow_le_pow_right (n := 10) (by omega) h
  exact_mod_cast this

/-- What is left is above nought: at most 18 digits have been written. -/
theorem cut_room {n m : Int} {ds : List UInt8} (h : n = m * 10 ^ ds.length + nval ds) (ha : alld ds = true) (hm : 0 < m) (hn : n ≤ 9223372036854775807) : ds.length < 19 := by
  rcases Nat.lt_or_ge ds.length 19 with k | k
  · exact k
  · have h1 := pow_mono k
    have h2 := (nval_range ds ha).1
    have h3 : 1 * 10 ^ ds.length ≤ m * 10 ^ ds.length := Int.mul_le_mul_of_nonneg_right (by omega) (by omega)
    omega

end Go.Proofs.Qxb6600508a.Plain
