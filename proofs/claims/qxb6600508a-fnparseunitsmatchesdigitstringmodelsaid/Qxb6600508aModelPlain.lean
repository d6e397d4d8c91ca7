import Derived.Test.Qxb6600508aFmtPlain
/-! The digit-string model, and that it answers as 'parseUnits' does. No Go in sight. -/
namespace Go.Proofs.Qxb6600508a.Plain

/-- The digits without their leading zeros. -/
def sg : List UInt8 → List UInt8
  | [] => []
  | c :: l => if (c.toNat : Int) = 48 then sg l else c :: l

theorem sg_zero {c : UInt8} {l : List UInt8} (h : (c.toNat : Int) = 48) : sg (c :: l) = sg l := by rw [sg.eq_def]; simp only []; rw [if_pos h]
theorem sg_stop {c : UInt8} {l : List UInt8} (h : ¬ (c.toNat : Int) = 48) : sg (c :: l) = c :: l := by rw [sg.eq_def]; simp only []; rw [if_neg h]

/-- What the model answers: is there a point; the integer part; the decimals. -/
def mres (pl : Int) (pt : Bool) (I F : List UInt8) : Int × Bool :=
  if I = [] ∨ alld I = false ∨ alld F = false then (0, false)
  else if pt = true ∧ F = [] then (0, false)
  else if pl < F.length then (0, false)
  else if sg (I ++ F) = [] then (0, false)
  else if 18 < ((sg (I ++ F)).length : Int) + (pl - F.length) then (0, false)
  else (nval (sg (I ++ F)) * 10 ^ (pl - F.length).toNat, true)

/-! #### The significant digits -/
theorem sg_nval : ∀ l : List UInt8, alld l = true → nval (sg l) = nval l ∧ alld (sg l) = true ∧ (sg l = [] → nval l = 0) ∧ (sg l ≠ [] → 10 ^ ((sg l).length - 1) ≤ nval l)
  | [], _ => ⟨rfl, rfl, fun _ => rfl, fun h => absurd rfl h⟩
  | c :: l, h => by
    rw [alld_cons, Bool.and_eq_true] at h
    have hc := (digB_iff c).1 h.1
    have hr := nval_range l h.2
    by_cases e : (c.toNat : Int) = 48
    · have ih := sg_nval l h.2
      have ev : nval (c :: l) = nval l := by rw [nval_cons, e]; omega
      rw [sg_zero e, ev]
      exact ih
    · rw [sg_stop e]
      refine ⟨rfl, by rw [alld_cons, h.1, h.2]; rfl, fun k => absurd k (by simp), fun _ => ?_⟩
      rw [nval_cons, List.length_cons, Nat.add_sub_cancel]
      have hp : (0 : Int) ≤ 10 ^ l.length := Int.pow_nonneg (by decide)
      have hm : 1 * 10 ^ l.length ≤ ((c.toNat : Int) - 48) * 10 ^ l.length := Int.mul_le_mul_of_nonneg_right (by omega) hp
      omega

/-! #### Times ten, again and again -/
theorem pmul_fits : ∀ (t : Nat) (u : Int), 0 ≤ u → u * 10 ^ t ≤ 999999999999999999 → pmul t u = (u * 10 ^ t, true)
  | 0, u, _, _ => by rw [pmul_zero, Int.pow_zero, Int.mul_one]
  | t + 1, u, h0, h => by
    have e : u * 10 ^ (t + 1) = u * 10 * 10 ^ t := by rw [Int.pow_succ, Int.mul_comm (10 ^ t) 10, ← Int.mul_assoc]
    rw [e] at h ⊢
    have hp : (1 : Int) ≤ 10 ^ t := pow_mono (Nat.zero_le t)
    have hm : u * 10 * 1 ≤ u * 10 * 10 ^ t := Int.mul_le_mul_of_nonneg_left hp (by omega)
    rw [pmul_step _ _ (by omega), pmul_fits t (u * 10) (by omega) h]

theorem pmul_not : ∀ (t : Nat) (u : Int), 0 ≤ u → u ≤ 999999999999999999 → 999999999999999999 < u * 10 ^ t → pmul t u = (0, false)
  | 0, u, _, h1, h => by rw [Int.pow_zero, Int.mul_one] at h; omega
  | t + 1, u, h0, _, h => by
    by_cases k : 99999999999999999 < u
    · rw [pmul_over _ _ k]
    · have e : u * 10 ^ (t + 1) = u * 10 * 10 ^ t := by rw [Int.pow_succ, Int.mul_comm (10 ^ t) 10, ← Int.mul_assoc]
      rw [e] at h
      rw [pmul_step _ _ k, pmul_not t (u * 10) (by omega) (by omega) h]

/-! #### Ways to be refused -/
/-- A byte that is neither a digit nor a point, somewhere ahead. -/
theorem pgo_bad (pl : Int) (r : List UInt8) : ∀ (l : List UInt8) (f : Bool) (u d : Int), alld l = false → (∀ c ∈ l, ¬ (c.toNat : Int) = 46) → pgo pl f u d (l ++ r) = (0, false)
  | [], _, _, _, h, _ => by cases h
  | c :: l, f, u, d, h, h46 => by
    have hc := h46 c (by simp)
    rw [List.cons_append, pgo_cons, if_neg (by omega)]
    by_cases k : (c.toNat : Int) < 48 ∨ 57 < (c.toNat : Int) ∨ d = pl
    · rw [if_pos k]
    · rw [if_neg k]
      split
      · rfl
      · have hd : digB c = true := (digB_iff c).2 (by omega)
        rw [alld_cons, hd, Bool.true_and] at h
        exact pgo_bad pl r l false _ _ h (fun x hx => h46 x (by simp [hx]))

/-- Behind the point: a byte that is no digit. -/
theorem pgo_badF (pl : Int) : ∀ (l : List UInt8) (u d : Int), 0 ≤ d → alld l = false → pgo pl false u d l = (0, false)
  | [], _, _, _, h => by cases h
  | c :: l, u, d, h0, h => by
    rw [pgo_cons, if_neg (by omega)]
    by_cases k : (c.toNat : Int) < 48 ∨ 57 < (c.toNat : Int) ∨ d = pl
    · rw [if_pos k]
    · rw [if_neg k]
      split
      · rfl
      · have hd : digB c = true := (digB_iff c).2 (by omega)
        rw [alld_cons, hd, Bool.true_and] at h
        exact pgo_badF pl l _ _ (by omega) h

/-- Too many decimals. -/
theorem pgo_many (pl : Int) : ∀ (l : List UInt8) (u d : Int), 0 ≤ d → d ≤ pl → pl < d + l.length → pgo pl false u d l = (0, false)
  | [], _, _, _, _, h => by simp at h; omega
  | c :: l, u, d, h0, h1, h => by
    have hlen : ((c :: l).length : Int) = l.length + 1 := by simp
    rw [pgo_cons, if_neg (by omega)]
    by_cases k : (c.toNat : Int) < 48 ∨ 57 < (c.toNat : Int) ∨ d = pl
    · rw [if_pos k]
    · rw [if_neg k]
      split
      · rfl
      · exact pgo_many pl l _ _ (by omega) (by omega) (by omega)

/-- Too great a figure. -/
theorem pgo_great (pl : Int) (r : List UInt8) : ∀ (l : List UInt8) (f : Bool) (u d : Int), alld l = true → u ≤ 999999999999999999 → 999999999999999999 < u * 10 ^ l.length + nval l → pgo pl f u d (l ++ r) = (0, false)
  | [], _, u, _, _, h1, h => by rw [nval_nil, List.length_nil, Int.pow_zero] at h; omega
  | c :: l, f, u, d, ha, h1, h => by
    rw [alld_cons, Bool.and_eq_true] at ha
    have hc := (digB_iff c).1 ha.1
    have hv : u * 10 ^ (c :: l).length + nval (c :: l) = (10 * u + ((c.toNat : Int) - 48)) * 10 ^ l.length + nval l := by
      rw [nval_cons, List.length_cons, Int.pow_succ, Int.add_mul, Int.mul_comm 10 u, Int.mul_assoc, Int.mul_comm 10 (10 ^ l.length)]
      omega
    rw [hv] at h
    rw [List.cons_append, pgo_cons, if_neg (by omega)]
    by_cases k : (c.toNat : Int) < 48 ∨ 57 < (c.toNat : Int) ∨ d = pl
    · rw [if_pos k]
    · rw [if_neg k]
      by_cases q : (999999999999999999 - ((c.toNat : Int) - 48)) / 10 < u
      · rw [if_pos q]
      · rw [if_neg q]
        exact pgo_great pl r l false _ _ ha.2 (by omega) h

/-! #### The end -/
theorem fin_is (pl : Int) (F all : List UInt8) (ha : alld all = true) (hF : (F.length : Int) ≤ pl) (d : Int) (hd : d ≠ 0) (hdl : max d 0 = F.length) (hV : nval all ≤ 999999999999999999) :
    pfin pl (nval all) d = if sg all = [] then (0, false) else if 18 < ((sg all).length : Int) + (pl - F.length) then (0, false) else (nval (sg all) * 10 ^ (pl - F.length).toNat, true) := by
  obtain ⟨e1, e2, e3, e4⟩ := sg_nval all ha
  unfold pfin
  by_cases k : sg all = []
  · rw [if_pos (Or.inr (e3 k)), if_pos k]
  · have hlo := e4 k
    have hpos : (1 : Int) ≤ 10 ^ ((sg all).length - 1) := pow_mono (Nat.zero_le _)
    have hlen : 0 < (sg all).length := List.length_pos_iff.2 k
    rw [if_neg (by omega), if_neg k, hdl, e1]
    have hr := (nval_range _ e2).2
    rw [e1] at hr
    by_cases q : 18 < ((sg all).length : Int) + (pl - F.length)
    · rw [if_pos q]
      refine pmul_not _ _ (by omega) hV ?_
      have h1 : (10 : Int) ^ 18 ≤ 10 ^ ((sg all).length - 1 + (pl - F.length).toNat) := pow_mono (by omega)
      rw [Int.pow_add] at h1
      have h2 : (10 : Int) ^ ((sg all).length - 1) * 10 ^ (pl - F.length).toNat ≤ nval all * 10 ^ (pl - F.length).toNat := Int.mul_le_mul_of_nonneg_right hlo (Int.pow_nonneg (by decide))
      have h3 : (10 : Int) ^ 18 = 1000000000000000000 := by decide
      omega
    · rw [if_neg q]
      refine pmul_fits _ _ (by omega) ?_
      have h1 : (10 : Int) ^ ((sg all).length + (pl - F.length).toNat) ≤ 10 ^ 18 := pow_mono (by omega)
      rw [Int.pow_add] at h1
      have hp : (0 : Int) < 10 ^ (pl - F.length).toNat := Int.pow_pos (by decide)
      have h2 : nval all * 10 ^ (pl - F.length).toNat < 10 ^ (sg all).length * 10 ^ (pl - F.length).toNat := Int.mul_lt_mul_of_pos_right hr hp
      have h3 : (10 : Int) ^ 18 = 1000000000000000000 := by decide
      omega

/-- Too great a figure has more than 18 significant digits. -/
theorem great_sg (all : List UInt8) (ha : alld all = true) (hV : 999999999999999999 < nval all) : sg all ≠ [] ∧ 18 < (sg all).length := by
  obtain ⟨e1, e2, e3, e4⟩ := sg_nval all ha
  have k : sg all ≠ [] := fun k => by have := e3 k; omega
  refine ⟨k, ?_⟩
  have hr := (nval_range _ e2).2
  rw [e1] at hr
  rcases Nat.lt_or_ge 18 (sg all).length with q | q
  · exact q
  · have h1 := pow_mono q
    have h3 : (10 : Int) ^ 18 = 1000000000000000000 := by decide
    omega

/-- ████ No point. ████ -/
theorem agree_plain (pl : Int) (hpl : 0 ≤ pl) (I : List UInt8) (h46 : ∀ c ∈ I, ¬ (c.toNat : Int) = 46) : pgo pl true 0 (-1) I = mres pl false I [] := by
  unfold mres
  by_cases h0 : I = []
  · subst h0
    rw [if_pos (Or.inl rfl), pgo_nil]
    unfold pfin
    rw [if_pos (Or.inr rfl)]
  · cases ha : alld I
    · rw [if_pos (Or.inr (Or.inl rfl))]
      have := pgo_bad pl [] I true 0 (-1) ha h46
      rw [List.append_nil] at this
      exact this
    · rw [if_neg (by simp [h0, alld]), if_neg (by simp), if_neg (by simp; omega), List.append_nil]
      by_cases hV : nval I ≤ 999999999999999999
      · have h := pgo_run pl [] I true 0 (-1) ha h0 (by omega) (by omega) (by omega) (by omega) hpl
        rw [List.append_nil] at h
        rw [h, pgo_nil, if_neg (by omega), show (0 : Int) * 10 ^ I.length + nval I = nval I by omega]
        exact fin_is pl [] I ha (by simpa using hpl) (-1) (by omega) (by simp; omega) hV
      · have h := pgo_great pl [] I true 0 (-1) ha (by omega) (by omega)
        rw [List.append_nil] at h
        obtain ⟨g1, g2⟩ := great_sg I ha (by omega)
        rw [h, if_neg g1, if_pos (by simp; omega)]

/-- ████ A point behind the first 'I', which bears none. ████ -/
theorem agree_point (pl : Int) (hpl : 0 ≤ pl) (I F : List UInt8) (h46 : ∀ c ∈ I, ¬ (c.toNat : Int) = 46) : pgo pl true 0 (-1) (I ++ 46 :: F) = mres pl true I F := by
  unfold mres
  by_cases h0 : I = []
  · subst h0
    rw [if_pos (Or.inl rfl), List.nil_append, pgo_cons, if_neg (by simp), if_pos (Or.inl (by decide))]
  · cases ha : alld I
    · rw [if_pos (Or.inr (Or.inl rfl))]
      exact pgo_bad pl (46 :: F) I true 0 (-1) ha h46
    · have hrI := nval_range I ha
      by_cases hVI : nval I ≤ 999999999999999999
      · have hrun := pgo_run pl (46 :: F) I true 0 (-1) ha h0 (by omega) (by omega) (by omega) (by omega) hpl
        rw [if_neg (by omega), show (0 : Int) * 10 ^ I.length + nval I = nval I by omega, pgo_cons, if_pos ⟨rfl, by omega, rfl⟩] at hrun
        rw [hrun]
        cases hb : alld F
        · rw [if_pos (Or.inr (Or.inr rfl))]
          exact pgo_badF pl F _ 0 (by omega) hb
        · rw [if_neg (by simp [h0])]
          by_cases hF : F = []
          · subst hF
            rw [if_pos ⟨rfl, rfl⟩, pgo_nil]
            unfold pfin
            rw [if_pos (Or.inl rfl)]
          · rw [if_neg (by simp [hF])]
            by_cases hm : pl < F.length
            · rw [if_pos hm]
              exact pgo_many pl F _ 0 (by omega) hpl (by omega)
            · rw [if_neg hm]
              have hall : alld (I ++ F) = true := by rw [alld_append, ha, hb]; rfl
              have hlF : 0 < F.length := List.length_pos_iff.2 hF
              by_cases hV : nval (I ++ F) ≤ 999999999999999999
              · have hV' := hV
                rw [nval_append] at hV'
                have h := pgo_run pl [] F false (nval I) 0 hb hF hrI.1 hV' (by omega) (by omega) hpl
                rw [List.append_nil] at h
                rw [h, pgo_nil, if_pos (by omega), ← nval_append]
                exact fin_is pl F (I ++ F) hall (by omega) _ (by omega) (by omega) hV
              · have hV' : 999999999999999999 < nval I * 10 ^ F.length + nval F := by rw [← nval_append]; omega
                have h := pgo_great pl [] F false (nval I) 0 hb hVI hV'
                rw [List.append_nil] at h
                obtain ⟨g1, g2⟩ := great_sg (I ++ F) hall (by omega)
                rw [h, if_neg g1, if_pos (by omega)]
      · rw [pgo_great pl (46 :: F) I true 0 (-1) ha (by omega) (by omega)]
        split
        · rfl
        · split
          · rfl
          · split
            · rfl
            · rename_i n1 n2 n3
              have hb : alld F = true := by
                cases e : alld F
                · exact absurd (Or.inr (Or.inr e)) n1
                · rfl
              have hall : alld (I ++ F) = true := by rw [alld_append, ha, hb]; rfl
              have hrF := nval_range F hb
              have hp : (1 : Int) ≤ 10 ^ F.length := pow_mono (Nat.zero_le _)
              have hmm : nval I * 1 ≤ nval I * 10 ^ F.length := Int.mul_le_mul_of_nonneg_left hp hrI.1
              obtain ⟨g1, g2⟩ := great_sg (I ++ F) hall (by rw [nval_append]; omega)
              rw [if_neg g1, if_pos (by omega)]

/-! #### For the walk -/
/-- Each of the seven tests refuses. -/
theorem mres_bad {pl : Int} {pt : Bool} {I F : List UInt8}
    (h : I = [] ∨ alld I = false ∨ alld F = false ∨ (pt = true ∧ F = []) ∨ pl < F.length ∨ sg (I ++ F) = [] ∨ 18 < ((sg (I ++ F)).length : Int) + (pl - F.length)) : mres pl pt I F = (0, false) := by
  unfold mres
  split
  · rfl
  · rename_i n1
    split
    · rfl
    · rename_i n2
      split
      · rfl
      · rename_i n3
        split
        · rfl
        · rename_i n4
          split
          · rfl
          · rename_i n5
            rcases h with h | h | h | h | h | h | h
            · exact absurd (Or.inl h) n1
            · exact absurd (Or.inr (Or.inl h)) n1
            · exact absurd (Or.inr (Or.inr h)) n1
            · exact absurd h n2
            · exact absurd h n3
            · exact absurd h n4
            · exact absurd h n5

theorem mres_ok {pl : Int} {pt : Bool} {I F : List UInt8} (h1 : I ≠ []) (h2 : alld I = true) (h3 : alld F = true) (h4 : ¬ (pt = true ∧ F = [])) (h5 : ¬ pl < F.length) (h6 : sg (I ++ F) ≠ []) (h7 : ¬ 18 < ((sg (I ++ F)).length : Int) + (pl - F.length)) :
    mres pl pt I F = (nval (sg (I ++ F)) * 10 ^ (pl - F.length).toNat, true) := by
  unfold mres
  rw [if_neg (by rw [h2, h3]; simp [h1]), if_neg h4, if_neg h5, if_neg h6, if_neg h7]

theorem list_nil {I : ByteArray} (h : I.size = 0) : I.data.toList = [] := by
  have := I.data.length_toList
  exact List.length_eq_zero_iff.1 (this.trans h)
theorem list_len (I : ByteArray) : I.data.toList.length = I.size := I.data.length_toList
theorem list_ne {I : ByteArray} (h : ¬ I.size = 0) : I.data.toList ≠ [] := fun e => h (by rw [← list_len, e]; rfl)

/-- The bounds of the third loop. -/
theorem take_bound {G : ByteArray} (ha : alld G.data.toList = true) {j : Nat} (hj : j ≤ 17) : 0 ≤ nval (G.data.toList.take j) ∧ nval (G.data.toList.take j) ≤ 99999999999999999 := by
  have e : alld (G.data.toList.take j) = true := by
    have := alld_append (G.data.toList.take j) (G.data.toList.drop j)
    rw [List.take_append_drop, ha] at this
    have h := this.symm
    rw [Bool.and_eq_true] at h
    exact h.1
  have hr := nval_range _ e
  have hl : (G.data.toList.take j).length ≤ 17 := Nat.le_trans (List.length_take_le _ _) hj
  have hp := pow_mono hl
  have h3 : (10 : Int) ^ 17 = 100000000000000000 := by decide
  omega

/-- The bounds of the fourth. -/
theorem mul_bound {G : ByteArray} (ha : alld G.data.toList = true) {j : Nat} (hj : G.size + j ≤ 18) : 0 ≤ nval G.data.toList * 10 ^ j ∧ nval G.data.toList * 10 ^ j ≤ 999999999999999999 := by
  have hr := nval_range _ ha
  rw [list_len] at hr
  have hp : (0 : Int) < 10 ^ j := Int.pow_pos (by decide)
  have h1 : (10 : Int) ^ (G.size + j) ≤ 10 ^ 18 := pow_mono hj
  rw [Int.pow_add] at h1
  have h2 : nval G.data.toList * 10 ^ j < 10 ^ G.size * 10 ^ j := Int.mul_lt_mul_of_pos_right hr.2 hp
  have h3 : (10 : Int) ^ 18 = 1000000000000000000 := by decide
  have h4 : 0 ≤ nval G.data.toList * 10 ^ j := Int.mul_nonneg hr.1 (by omega)
  omega

theorem mul_more (v : Int) (j : Nat) : v * 10 ^ j * 10 = v * 10 ^ (j + 1) := by rw [Int.pow_succ, Int.mul_assoc]

theorem extract_list (T : ByteArray) (k : Nat) : (T.extract k T.size).data.toList = T.data.toList.drop k := by
  simp
  exact List.take_of_length_le (by rw [List.length_drop, list_len]; exact Nat.le_refl _)

/-- The first point, if there is one. -/
theorem first_dot (s : ByteArray) : (∀ j (h : j < s.size), ¬ (s[j].toNat : Int) = 46) ∨ ∃ p, ∃ hp : p < s.size, (s[p].toNat : Int) = 46 ∧ ∀ j (h : j < p), ¬ (s[j].toNat : Int) = 46 := by
  suffices H : ∀ n, (hn : n ≤ s.size) → (∀ j (h : j < n), ¬ (s[j].toNat : Int) = 46) ∨ ∃ p, ∃ hp : p < s.size, (s[p].toNat : Int) = 46 ∧ ∀ j (h : j < p), ¬ (s[j].toNat : Int) = 46 from H s.size (Nat.le_refl _)
  intro n
  induction n with
  | zero => intro _; exact Or.inl (fun j h => absurd h (Nat.not_lt_zero _))
  | succ n ih =>
    intro hn
    rcases ih (by omega) with h | h
    · by_cases k : (s[n].toNat : Int) = 46
      · exact Or.inr ⟨n, by omega, k, h⟩
      · refine Or.inl (fun j hj => ?_)
        rcases Nat.lt_or_ge j n with q | q
        · exact h j q
        · have e : j = n := by omega
          subst e
          exact k
    · exact Or.inr h

theorem mem_at {s : ByteArray} {n : Nat} (hn : n ≤ s.size) (h : ∀ j (h : j < n), ¬ (s[j].toNat : Int) = 46) : ∀ c ∈ s.data.toList.take n, ¬ (c.toNat : Int) = 46 := by
  intro c hc
  obtain ⟨j, hj, e⟩ := List.getElem_of_mem hc
  have hl : (s.data.toList.take n).length ≤ n := List.length_take_le _ _
  rw [List.getElem_take] at e
  have := h j (by omega)
  have e2 : s[j]'(by omega) = c := by rw [← e]; rfl
  rw [← e2]
  exact this

/-- ████ The model and 'parseUnits', over the bytes of any string. ████ -/
theorem agree_no (pl : Int) (hpl : 0 ≤ pl) (s : ByteArray) (h : ∀ j (h : j < s.size), ¬ (s[j].toNat : Int) = 46) : pgo pl true 0 (-1) s.data.toList = mres pl false s.data.toList [] := by
  refine agree_plain pl hpl _ ?_
  have := mem_at (Nat.le_refl _) h
  rw [take_all s s.size (Nat.le_refl _)] at this
  exact this

theorem agree_pt (pl : Int) (hpl : 0 ≤ pl) (s : ByteArray) (p : Nat) (hp : p < s.size) (hd : (s[p].toNat : Int) = 46) (h : ∀ j (h : j < p), ¬ (s[j].toNat : Int) = 46) :
    pgo pl true 0 (-1) s.data.toList = mres pl true (s.extract 0 p).data.toList (s.extract (p + 1) s.size).data.toList := by
  have e1 : (s.extract 0 p).data.toList = s.data.toList.take p := by simp
  have e2 := extract_list s (p + 1)
  have e3 : s[p] = 46 := UInt8.toNat_inj.1 (by have : ((46 : UInt8).toNat : Int) = 46 := rfl; omega)
  have e4 : s.data.toList = s.data.toList.take p ++ 46 :: s.data.toList.drop (p + 1) := by
    rw [← e3, ← drop_cons s p hp, List.take_append_drop]
  rw [e1, e2]
  conv => lhs; rw [e4]
  exact agree_point pl hpl _ _ (mem_at (by omega) h)

end Go.Proofs.Qxb6600508a.Plain
