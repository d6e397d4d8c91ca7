import Derived.Test.Qxb6600508aPlain
/-! What 'parseUnits' reckons, as a plain function. No Go in sight. -/
namespace Go.Proofs.Qxb6600508a.Plain

/-- The last loop: times ten, 't' rounds, or refused. -/
def pmul : Nat → Int → Int × Bool
  | 0, u => (u, true)
  | t + 1, u => if 99999999999999999 < u then (0, false) else pmul t (u * 10)

/-- Behind the first loop. -/
def pfin (pl u d : Int) : Int × Bool := if d = 0 ∨ u = 0 then (0, false) else pmul (pl - max d 0).toNat u

/-- The first loop, from a state on: is it the first byte; the units; the decimals (-1 ahead of the point). -/
def pgo (pl : Int) : Bool → Int → Int → List UInt8 → Int × Bool
  | _, u, d, [] => pfin pl u d
  | first, u, d, c :: l =>
    if (c.toNat : Int) = 46 ∧ d < 0 ∧ first = false then pgo pl false u 0 l
    else if (c.toNat : Int) < 48 ∨ 57 < (c.toNat : Int) ∨ d = pl then (0, false)
    else if (999999999999999999 - ((c.toNat : Int) - 48)) / 10 < u then (0, false)
    else pgo pl false (10 * u + ((c.toNat : Int) - 48)) (if 0 ≤ d then d + 1 else d) l

theorem pgo_nil (pl : Int) (f : Bool) (u d : Int) : pgo pl f u d [] = pfin pl u d := by cases f <;> rfl
theorem pgo_cons (pl : Int) (first : Bool) (u d : Int) (c : UInt8) (l : List UInt8) : pgo pl first u d (c :: l) =
    if (c.toNat : Int) = 46 ∧ d < 0 ∧ first = false then pgo pl false u 0 l
    else if (c.toNat : Int) < 48 ∨ 57 < (c.toNat : Int) ∨ d = pl then (0, false)
    else if (999999999999999999 - ((c.toNat : Int) - 48)) / 10 < u then (0, false)
    else pgo pl false (10 * u + ((c.toNat : Int) - 48)) (if 0 ≤ d then d + 1 else d) l := by cases first <;> rfl

theorem pmul_zero (u : Int) : pmul 0 u = (u, true) := rfl
theorem pmul_over (t : Nat) (u : Int) (h : 99999999999999999 < u) : pmul (t + 1) u = (0, false) := by unfold pmul; rw [if_pos h]
theorem pmul_step (t : Nat) (u : Int) (h : ¬ 99999999999999999 < u) : pmul (t + 1) u = pmul t (u * 10) := by rw [pmul.eq_def]; simp only []; rw [if_neg h]

theorem drop_cons (s : ByteArray) (k : Nat) (h : k < s.size) : s.data.toList.drop k = s[k] :: s.data.toList.drop (k + 1) := by
  rw [List.drop_eq_getElem_cons (by simpa using h)]; rfl

theorem drop_all (s : ByteArray) (k : Nat) (h : s.size ≤ k) : s.data.toList.drop k = [] := List.drop_of_length_le (by simpa using h)

theorem pm_over {R : Int × Bool} {T : Int} {j : Nat} {u : Int} (H : R = pmul (T.toNat - j) u) (hj : (j : Int) < T) (hu : 99999999999999999 < u) : R = (0, false) := by
  rw [H, show T.toNat - j = (T.toNat - j - 1) + 1 by omega, pmul_over _ _ hu]
theorem pm_step {R : Int × Bool} {T : Int} {j : Nat} {u : Int} (H : R = pmul (T.toNat - j) u) (hj : (j : Int) < T) (hu : ¬ 99999999999999999 < u) : R = pmul (T.toNat - (j + 1)) (u * 10) := by
  rw [H, show T.toNat - j = (T.toNat - (j + 1)) + 1 by omega, pmul_step _ _ hu]
theorem pm_done {R : Int × Bool} {T : Int} {j : Nat} {u : Int} (H : R = pmul (T.toNat - j) u) (hj : ¬ (j : Int) < T) : R = (u, true) := by
  rw [H, show T.toNat - j = 0 by omega, pmul_zero]

end Go.Proofs.Qxb6600508a.Plain
