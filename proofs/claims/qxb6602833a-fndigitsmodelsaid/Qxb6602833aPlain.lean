import Derived.RowKit
/-! The plain mathematics of the seat: a run of digits. No Go in sight. -/
namespace Go.Proofs.Qxb6602833a.Plain
open Go.RowKit

/-- A byte is an ASCII digit. -/
def digB (c : UInt8) : Bool := 48 ≤ c.toNat && c.toNat ≤ 57
/-- Every byte is. -/
def alld (l : List UInt8) : Bool := l.all digB
/-- How many digits lead. -/
def run : List UInt8 → Nat
  | [] => 0
  | c :: l => if digB c = true then run l + 1 else 0

theorem digB_iff (c : UInt8) : digB c = true ↔ 48 ≤ (c.toNat : Int) ∧ (c.toNat : Int) ≤ 57 := by
  unfold digB; simp; omega
theorem digB_not (c : UInt8) (h : ¬ (48 ≤ (c.toNat : Int) ∧ (c.toNat : Int) ≤ 57)) : digB c = false := by
  cases e : digB c
  · rfl
  · exact absurd ((digB_iff c).1 e) h
theorem alld_cons (c : UInt8) (l : List UInt8) : alld (c :: l) = (digB c && alld l) := by simp [alld]
theorem run_dig {c : UInt8} {l : List UInt8} (h : digB c = true) : run (c :: l) = run l + 1 := by rw [run.eq_def]; simp only []; rw [if_pos h]
theorem run_not {c : UInt8} {l : List UInt8} (h : digB c = false) : run (c :: l) = 0 := by rw [run.eq_def]; simp only []; rw [if_neg (by rw [h]; simp)]

theorem drop_cons (s : ByteArray) (k : Nat) (h : k < s.size) : s.data.toList.drop k = s[k] :: s.data.toList.drop (k + 1) := by
  rw [List.drop_eq_getElem_cons (by simpa using h)]; rfl
theorem drop_all (s : ByteArray) (k : Nat) (h : s.size ≤ k) : s.data.toList.drop k = [] := List.drop_of_length_le (by simpa using h)

/-- The first c bytes are digits just where the run is at least c long. -/
theorem window : ∀ (l : List UInt8) (c : Nat), c ≤ l.length → alld (l.take c) = decide (c ≤ run l)
  | [], c, h => by
    have e : c = 0 := by simpa using h
    subst e
    rfl
  | x :: l, 0, _ => by
    rw [List.take_zero]
    have : 0 ≤ run (x :: l) := Nat.zero_le _
    rw [decide_eq_true this]
    rfl
  | x :: l, c + 1, h => by
    rw [List.take_succ_cons, alld_cons]
    have h' : c ≤ l.length := by simpa using h
    cases e : digB x
    · rw [run_not e, Bool.false_and, decide_eq_false (by omega)]
    · rw [run_dig e, Bool.true_and, window l c h']
      congr 1
      rw [eq_iff_iff]
      omega

end Go.Proofs.Qxb6602833a.Plain
