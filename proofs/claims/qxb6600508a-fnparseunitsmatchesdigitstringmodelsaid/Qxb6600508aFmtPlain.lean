import Derived.Test.Qxb6600508aParsePlain
/-! What 'formatUnits' writes, and that 'parseUnits' reads it back. No Go in sight. -/
namespace Go.Proofs.Qxb6600508a.Plain

/-- Digits, a point ahead of the last 'p' of them (p above 0). -/
def fmtD (p : Nat) : List UInt8 → List UInt8
  | [] => []
  | c :: l => (if l.length + 1 = p then [46] else []) ++ c :: fmtD p l

theorem fmtD_nil (p : Nat) : fmtD p [] = [] := rfl
theorem fmtD_dot {p : Nat} {c : UInt8} {l : List UInt8} (h : l.length + 1 = p) : fmtD p (c :: l) = 46 :: c :: fmtD p l := by
  rw [fmtD.eq_def]; simp only []; rw [if_pos h]; rfl
theorem fmtD_plain {p : Nat} {c : UInt8} {l : List UInt8} (h : ¬ l.length + 1 = p) : fmtD p (c :: l) = c :: fmtD p l := by
  rw [fmtD.eq_def]; simp only []; rw [if_neg h]; rfl

/-- Fewer digits than places: no point. -/
theorem fmtD_short (p : Nat) : ∀ l : List UInt8, l.length < p → fmtD p l = l
  | [], _ => rfl
  | c :: l, h => by
    have h' : l.length + 1 < p := by simpa using h
    rw [fmtD_plain (by omega), fmtD_short p l (by omega)]

theorem fmtD_zero : ∀ l : List UInt8, fmtD 0 l = l
  | [] => rfl
  | c :: l => by rw [fmtD_plain (by omega), fmtD_zero l]

/-- The digits parted ahead of the last p. -/
theorem fmtD_parts (p : Nat) (hp : 0 < p) (B : List UInt8) (hB : B.length = p) : ∀ A : List UInt8, fmtD p (A ++ B) = A ++ 46 :: B
  | [] => by
    match B, hB with
    | [], hB => exact absurd hB (by simp; omega)
    | c :: l, hB =>
      have h' : l.length + 1 = p := by simpa using hB
      rw [List.nil_append, fmtD_dot h', fmtD_short p l (by omega)]
      rfl
  | a :: A => by
    rw [List.cons_append, fmtD_plain (by simp; omega), fmtD_parts p hp B hB A]
    rfl

theorem fmtD_len (p : Nat) : ∀ l : List UInt8, (fmtD p l).length ≤ l.length + (if p ≤ l.length then 1 else 0) ∧ l.length ≤ (fmtD p l).length
  | [] => by simp [fmtD]
  | c :: l => by
    have ih := fmtD_len p l
    by_cases h : l.length + 1 = p
    · rw [fmtD_dot h, List.length_cons, List.length_cons, List.length_cons]
      rw [if_neg (by omega)] at ih
      rw [if_pos (by omega)]
      omega
    · rw [fmtD_plain h, List.length_cons, List.length_cons]
      by_cases k : p ≤ l.length
      · rw [if_pos k] at ih; rw [if_pos (by omega)]; omega
      · rw [if_neg k] at ih; rw [if_neg (by omega)]; omega

theorem fmtD_size (p : Nat) (l : List UInt8) : (fmtD p l).length ≤ l.length + 1 := by
  have h := (fmtD_len p l).1
  split at h <;> omega

/-- A run of digits, read from a state on. -/
theorem pgo_run (pl : Int) (r : List UInt8) : ∀ (l : List UInt8) (f : Bool) (u d : Int), alld l = true → l ≠ [] → 0 ≤ u → u * 10 ^ l.length + nval l ≤ 999999999999999999 → -1 ≤ d → (0 ≤ d → d + l.length ≤ pl) → 0 ≤ pl →
    pgo pl f u d (l ++ r) = pgo pl false (u * 10 ^ l.length + nval l) (if 0 ≤ d then d + l.length else d) r
  | [], _, _, _, _, h, _, _, _, _, _ => absurd rfl h
  | c :: l, f, u, d, ha, _, hu, hb, hd, hdp, hpl => by
    rw [alld_cons, Bool.and_eq_true] at ha
    have hc := (digB_iff c).1 ha.1
    have hr := nval_range l ha.2
    have hlen : ((c :: l).length : Int) = l.length + 1 := by simp
    have hpow : (1 : Int) ≤ 10 ^ l.length := pow_mono (Nat.zero_le l.length)
    have hv : u * 10 ^ (c :: l).length + nval (c :: l) = (10 * u + ((c.toNat : Int) - 48)) * 10 ^ l.length + nval l := by
      rw [nval_cons, List.length_cons, Int.pow_succ, Int.add_mul, Int.mul_comm 10 u, Int.mul_assoc, Int.mul_comm 10 (10 ^ l.length)]
      omega
    rw [hv] at hb ⊢
    have hx0 : 0 ≤ 10 * u + ((c.toNat : Int) - 48) := by omega
    have hx1 : (10 * u + ((c.toNat : Int) - 48)) * 1 ≤ (10 * u + ((c.toNat : Int) - 48)) * 10 ^ l.length := Int.mul_le_mul_of_nonneg_left hpow hx0
    rw [List.cons_append, pgo_cons, if_neg (by omega), if_neg (by omega), if_neg (by omega)]
    by_cases hl : l = []
    · subst hl
      rw [List.nil_append]
      simp only [List.length_nil, List.length_cons, nval_nil]
      rw [show (10 * u + ((c.toNat : Int) - 48)) * 10 ^ 0 + 0 = 10 * u + ((c.toNat : Int) - 48) by rw [Int.pow_zero]; omega]
      rfl
    · rw [pgo_run pl r l false (10 * u + ((c.toNat : Int) - 48)) (if 0 ≤ d then d + 1 else d) ha.2 hl hx0 hb (by split <;> omega) (by split <;> omega) hpl]
      congr 1
      by_cases k : 0 ≤ d
      · rw [if_pos k, if_pos k, if_pos (by omega), hlen]; omega
      · rw [if_neg k, if_neg k]; rw [if_neg k]

/-- What was written is read back. -/
theorem reads_back (p : Nat) (D : List UInt8) (U : Int) (ha : alld D = true) (hv : nval D = U) (hl : p < D.length) (h0 : 0 < U) (h1 : U ≤ 999999999999999999) : pgo (p : Int) true 0 (-1) (fmtD p D) = (U, true) := by
  rcases Nat.eq_zero_or_pos p with hp | hp
  · subst hp
    rw [fmtD_zero]
    have h := pgo_run ((0 : Nat) : Int) [] D true 0 (-1) ha (by intro e; rw [e] at hl; simp at hl) (by omega) (by omega) (by omega) (by omega) (by omega)
    rw [List.append_nil] at h
    rw [h, pgo_nil, if_neg (by omega), hv, show (0 : Int) * 10 ^ D.length + U = U by omega]
    unfold pfin
    rw [if_neg (by omega)]
    rfl
  · have hD : D = D.take (D.length - p) ++ D.drop (D.length - p) := (List.take_append_drop _ _).symm
    have hB : (D.drop (D.length - p)).length = p := by rw [List.length_drop]; omega
    have hA : (D.take (D.length - p)).length = D.length - p := by rw [List.length_take]; omega
    generalize D.take (D.length - p) = A at hD hA
    generalize D.drop (D.length - p) = B at hD hB
    subst hD
    rw [alld_append, Bool.and_eq_true] at ha
    rw [nval_append] at hv
    have hrB := nval_range B ha.2
    have hrA := nval_range A ha.1
    have hpow : (1 : Int) ≤ 10 ^ B.length := pow_mono (Nat.zero_le B.length)
    have hx1 : nval A * 1 ≤ nval A * 10 ^ B.length := Int.mul_le_mul_of_nonneg_left hpow hrA.1
    rw [List.length_append] at hl hA
    rw [fmtD_parts p hp B hB A]
    have hAn : A ≠ [] := by intro e; rw [e, List.length_nil] at hl; omega
    have hBn : B ≠ [] := by intro e; rw [e, List.length_nil] at hB; omega
    rw [pgo_run (p : Int) (46 :: B) A true 0 (-1) ha.1 hAn (by omega) (by omega) (by omega) (by omega) (by omega)]
    rw [if_neg (by omega), show (0 : Int) * 10 ^ A.length + nval A = nval A by omega, pgo_cons, if_pos ⟨rfl, by omega, rfl⟩]
    have h := pgo_run (p : Int) [] B false (nval A) 0 ha.2 hBn hrA.1 (by omega) (by omega) (by omega) (by omega)
    rw [List.append_nil] at h
    rw [h, hv, pgo_nil, if_pos (by omega), hB]
    unfold pfin
    rw [if_neg (by omega), show ((p : Int) - max (0 + (p : Int)) 0).toNat = 0 by omega]
    rfl

end Go.Proofs.Qxb6600508a.Plain
