import Derived.Deep.QuietTactic
import Derived.BigQuiet
import Derived.WalkSmall
import Derived.Laws.IdiomStrings
import Derived.Test.Qxb6600508aKit
import Derived.Test.Qxb6600508aCmp
import Derived.Test.Qxb6600508aBytesPlain
import Derived.Test.Qxb6600508aBias
namespace Go.Proofs.Qxb6600508a.Order
open Go.ChangeShapes Go.WideShapes Go.ChangeAt Go.RowKit Kit
open Bytes

/-- The two rows of 16 bytes lie where they were laid; nothing old has turned. -/
def Two (N M : Int) (p q : Nat) (w wr : World) : Prop :=
  (∀ j, j < 16 → wr.cell? ⟨p, j, none⟩ = some (.int .u8 (byt N j))) ∧ (∀ j, j < 16 → wr.cell? ⟨q, j, none⟩ = some (.int .u8 (byt M j))) ∧ Below w.heap.size w wr

theorem Two.drewN {N M : Int} {p q : Nat} {w wr : World} (h : Two N M p q w wr) (n : Nat) : Two N M p q w (wr.drewN n) := ⟨h.1, h.2.1, below_drewN h.2.2 n⟩

theorem lit_at (N : Int) : ∀ j, j < 16 → (#[.int .u8 (byt N 0), .int .u8 (byt N 1), .int .u8 (byt N 2), .int .u8 (byt N 3), .int .u8 (byt N 4), .int .u8 (byt N 5), .int .u8 (byt N 6), .int .u8 (byt N 7), .int .u8 (byt N 8), .int .u8 (byt N 9), .int .u8 (byt N 10), .int .u8 (byt N 11), .int .u8 (byt N 12), .int .u8 (byt N 13), .int .u8 (byt N 14), .int .u8 (byt N 15)] : Array Value)[j]? = some (.int .u8 (byt N j)) := by
  intro j hj
  match j, hj with
  | 0, _ => rfl
  | 1, _ => rfl
  | 2, _ => rfl
  | 3, _ => rfl
  | 4, _ => rfl
  | 5, _ => rfl
  | 6, _ => rfl
  | 7, _ => rfl
  | 8, _ => rfl
  | 9, _ => rfl
  | 10, _ => rfl
  | 11, _ => rfl
  | 12, _ => rfl
  | 13, _ => rfl
  | 14, _ => rfl
  | 15, _ => rfl
  | j + 16, hj => omega

theorem two_made {N M : Int} {w w1 w2 w3 : World} (h1 : Below w.heap.size w w1) (h2 : Below w1.heap.size w1 w2) (h3' : Below (w2.alloc (.cells #[.int .u8 (byt N 0), .int .u8 (byt N 1), .int .u8 (byt N 2), .int .u8 (byt N 3), .int .u8 (byt N 4), .int .u8 (byt N 5), .int .u8 (byt N 6), .int .u8 (byt N 7), .int .u8 (byt N 8), .int .u8 (byt N 9), .int .u8 (byt N 10), .int .u8 (byt N 11), .int .u8 (byt N 12), .int .u8 (byt N 13), .int .u8 (byt N 14), .int .u8 (byt N 15)] 35)).heap.size (w2.alloc (.cells #[.int .u8 (byt N 0), .int .u8 (byt N 1), .int .u8 (byt N 2), .int .u8 (byt N 3), .int .u8 (byt N 4), .int .u8 (byt N 5), .int .u8 (byt N 6), .int .u8 (byt N 7), .int .u8 (byt N 8), .int .u8 (byt N 9), .int .u8 (byt N 10), .int .u8 (byt N 11), .int .u8 (byt N 12), .int .u8 (byt N 13), .int .u8 (byt N 14), .int .u8 (byt N 15)] 35)) w3) :
    Two N M w2.heap.size w3.heap.size w (w3.alloc (.cells #[.int .u8 (byt M 0), .int .u8 (byt M 1), .int .u8 (byt M 2), .int .u8 (byt M 3), .int .u8 (byt M 4), .int .u8 (byt M 5), .int .u8 (byt M 6), .int .u8 (byt M 7), .int .u8 (byt M 8), .int .u8 (byt M 9), .int .u8 (byt M 10), .int .u8 (byt M 11), .int .u8 (byt M 12), .int .u8 (byt M 13), .int .u8 (byt M 14), .int .u8 (byt M 15)] 35)) := by
  have h3 : Below (w2.heap.size + 1) (w2.alloc (.cells #[.int .u8 (byt N 0), .int .u8 (byt N 1), .int .u8 (byt N 2), .int .u8 (byt N 3), .int .u8 (byt N 4), .int .u8 (byt N 5), .int .u8 (byt N 6), .int .u8 (byt N 7), .int .u8 (byt N 8), .int .u8 (byt N 9), .int .u8 (byt N 10), .int .u8 (byt N 11), .int .u8 (byt N 12), .int .u8 (byt N 13), .int .u8 (byt N 14), .int .u8 (byt N 15)] 35)) w3 := h3'.mono (by simp)
  have hs := h3.size
  have hs' : w2.heap.size + 1 ≤ w3.heap.size := by simpa using hs
  refine ⟨fun j hj => ?_, fun j hj => ?_, ?_⟩
  · rw [((Below.refl w3.heap.size w3).alloc (Nat.le_refl _) _).cell (p := ⟨w2.heap.size, j, none⟩) (by show w2.heap.size < _; omega), h3.cell (p := ⟨w2.heap.size, j, none⟩) (by show w2.heap.size < _; omega)]
    rw [World.cell?_alloc_mark, lit_at N j hj]
  · rw [World.cell?_alloc_mark, lit_at M j hj]
  · have e1 := h1.size
    have e2 := h2.size
    exact ((((h1.trans (h2.mono e1)).alloc (by omega) _).trans (h3.mono (by omega)))).alloc (by omega) _

theorem pre_gt {N M : Int} {i : Nat} (hi : i < 16) (h : pre N M i) (e : byt M i < byt N i) : M < N := pre_lt hi (show pre M N i from Eq.symm h) e

theorem num_lt {a b c d : Int} (hb : 0 ≤ b ∧ b ≤ 18446744073709551615) (hd : 0 ≤ d ∧ d ≤ 18446744073709551615) (h : num a b < num c d) : Cmp.cmp a b c d = -1 := by
  unfold num at h
  rcases Int.lt_trichotomy a c with k | k | k
  · exact Cmp.cmp_hi_lt k
  · exact Cmp.cmp_lo_lt k (by subst k; omega)
  · omega
theorem num_gt {a b c d : Int} (hb : 0 ≤ b ∧ b ≤ 18446744073709551615) (hd : 0 ≤ d ∧ d ≤ 18446744073709551615) (h : num c d < num a b) : Cmp.cmp a b c d = 1 := by
  unfold num at h
  rcases Int.lt_trichotomy a c with k | k | k
  · omega
  · exact Cmp.cmp_lo_gt k (by subst k; omega)
  · exact Cmp.cmp_hi_gt k
theorem num_eq {a b c d : Int} (hb : 0 ≤ b ∧ b ≤ 18446744073709551615) (hd : 0 ≤ d ∧ d ≤ 18446744073709551615) (h : num a b = num c d) : Cmp.cmp a b c d = 0 := by
  unfold num at h
  exact Cmp.cmp_eq (by omega) (by omega)

set_option maxHeartbeats 1000000 in
theorem walk (a0 : Int) (a1 : Int) (a2 : Int) (a3 : Int) (w0 : (Lit.int .i64 a0).wf = true) (w1 : (Lit.int .u64 a1).wf = true) (w2 : (Lit.int .i64 a2).wf = true) (w3 : (Lit.int .u64 a3).wf = true) (w : World) :
    Calls Try.prog 9 #[.int .i64 a0, .int .u64 a1, .int .i64 a2, .int .u64 a3] w fun e w' => e = .returned (.bool true) ∧ Below w.heap.size w w' := by
  obtain ⟨r, hr⟩ : ∃ r, Cmp.cmp a0 a1 a2 a3 = r := ⟨_, rfl⟩
  have HR : Hid _ := hr
  have B0 : Hid _ := bounds_i64 w0
  have B1 : Hid _ := bounds_u64 w1
  have B2 : Hid _ := bounds_i64 w2
  have B3 : Hid _ := bounds_u64 w3
  clear hr w0 w1 w2 w3
  go_enter Try.func9, Try.ntmps9
  go_wp2_with fail
  refine (Cmp.zzcompare_is _ _ _ _ _ HR.out _).mono ?_
  rintro e w1 ⟨rfl, hb1⟩
  go_wp2_with fail
  refine (Bias.bias_any _ _ _ B0.out B1.out).mono ?_
  rintro e w2 ⟨rfl, hb2⟩
  go_wp2_with fail
  refine (Bias.bias_any _ _ _ B2.out B3.out).mono ?_
  rintro e w3 ⟨rfl, hb3⟩
  go_wp2_with fail
  have HT : Hid (Two (num a0 a1) (num a2 a3) w2.heap.size w3.heap.size w (w3.alloc (.cells #[.int .u8 (byt (num a2 a3) 0), .int .u8 (byt (num a2 a3) 1), .int .u8 (byt (num a2 a3) 2), .int .u8 (byt (num a2 a3) 3), .int .u8 (byt (num a2 a3) 4), .int .u8 (byt (num a2 a3) 5), .int .u8 (byt (num a2 a3) 6), .int .u8 (byt (num a2 a3) 7), .int .u8 (byt (num a2 a3) 8), .int .u8 (byt (num a2 a3) 9), .int .u8 (byt (num a2 a3) 10), .int .u8 (byt (num a2 a3) 11), .int .u8 (byt (num a2 a3) 12), .int .u8 (byt (num a2 a3) 13), .int .u8 (byt (num a2 a3) 14), .int .u8 (byt (num a2 a3) 15)] 35))) := two_made hb1 hb2 hb3
  have HP : Hid (pre (num a0 a1) (num a2 a3) 0) := pre_zero (num_range _ _ B0.out B1.out) (num_range _ _ B2.out B3.out)
  have HL : Hid (num a0 a1 < num a2 a3 → r = -1) := fun h => HR.out.symm.trans (num_lt B1.out B3.out h)
  have HG : Hid (num a2 a3 < num a0 a1 → r = 1) := fun h => HR.out.symm.trans (num_gt B1.out B3.out h)
  have HE : Hid (num a0 a1 = num a2 a3 → r = 0) := fun h => HR.out.symm.trans (num_eq B1.out B3.out h)
  clear HR B0 B1 B2 B3 hb1 hb2 hb3
  generalize num a0 a1 = N at *
  generalize num a2 a3 = M at *
  generalize w3.heap.size = q at *
  generalize w2.heap.size = p at *
  generalize w3.alloc (.cells #[.int .u8 (byt M 0), .int .u8 (byt M 1), .int .u8 (byt M 2), .int .u8 (byt M 3), .int .u8 (byt M 4), .int .u8 (byt M 5), .int .u8 (byt M 6), .int .u8 (byt M 7), .int .u8 (byt M 8), .int .u8 (byt M 9), .int .u8 (byt M 10), .int .u8 (byt M 11), .int .u8 (byt M 12), .int .u8 (byt M 13), .int .u8 (byt M 14), .int .u8 (byt M 15)] 35) = W at *
  generalize Value.agg #[.int .u8 (byt N 0), .int .u8 (byt N 1), .int .u8 (byt N 2), .int .u8 (byt N 3), .int .u8 (byt N 4), .int .u8 (byt N 5), .int .u8 (byt N 6), .int .u8 (byt N 7), .int .u8 (byt N 8), .int .u8 (byt N 9), .int .u8 (byt N 10), .int .u8 (byt N 11), .int .u8 (byt N 12), .int .u8 (byt N 13), .int .u8 (byt N 14), .int .u8 (byt N 15)] = VN at *
  generalize Value.agg #[.int .u8 (byt M 0), .int .u8 (byt M 1), .int .u8 (byt M 2), .int .u8 (byt M 3), .int .u8 (byt M 4), .int .u8 (byt M 5), .int .u8 (byt M 6), .int .u8 (byt M 7), .int .u8 (byt M 8), .int .u8 (byt M 9), .int .u8 (byt M 10), .int .u8 (byt M 11), .int .u8 (byt M 12), .int .u8 (byt M 13), .int .u8 (byt M 14), .int .u8 (byt M 15)] = VM at *
  go_loopw [12, 13] (fun x i wr => ∃ (k : Nat), k ≤ 16 ∧ i = .int .i64 k ∧ x = .int .i64 0 ∧ Hid (Two N M p q w wr) ∧ Hid (pre N M k)) (fun _ i _ => 16 - (intOf i).toNat)
  case atStart => exact ⟨0, by omega, rfl, rfl, HT, HP⟩
  case round =>
    clear HT HP
    obtain ⟨k, hk, rfl, rfl, ht, hp⟩ := hrel
    by_cases hlt : k < 16
    · obtain ⟨x, hx⟩ : ∃ x, byt N k = x := ⟨_, rfl⟩
      obtain ⟨y, hy⟩ : ∃ y, byt M k = y := ⟨_, rfl⟩
      have hc1 := ht.out.1 k hlt
      have hc2 := ht.out.2.1 k hlt
      have hx0 := byt_range N k
      have hy0 := byt_range M k
      rw [hx] at hc1 hx0
      rw [hy] at hc2 hy0
      have HX : Hid _ := hx
      have HY : Hid _ := hy
      have hki : (k : Int) < 16 := by omega
      clear hx hy
      rcases Int.lt_trichotomy x y with h | h | h
      · have hr : r = -1 := HL.out (pre_lt hlt hp.out (by rw [HX.out, HY.out]; exact h))
        subst hr
        go_wp2
        go_quiet (fail)
        go_wp2
        go_quiet (fail)
        go_wp2
        go_ret
        exact ⟨rfl, (ht.out.drewN _).2.2⟩
      · subst h
        have HN : Hid _ := pre_step hlt hp.out (by rw [HX.out, HY.out])
        go_wp2
        go_quiet (fail)
        go_wp2
        go_roundw
        case rel => exact ⟨k + 1, by omega, by go_num, rfl, ht.out.drewN _, HN.out⟩
        case measure => simp [intOf]; omega
      · have hr : r = 1 := HG.out (pre_gt hlt hp.out (by rw [HX.out, HY.out]; exact h))
        subst hr
        go_wp2
        go_quiet (fail)
        go_wp2
        go_quiet (fail)
        go_wp2
        go_ret
        exact ⟨rfl, (ht.out.drewN _).2.2⟩
    · have hk : k = 16 := by omega
      have hr : r = 0 := HE.out (pre_end (by rw [← hk]; exact hp.out))
      clear hk
      subst hr
      go_wp2
      go_ret
      exact ⟨rfl, ht.out.2.2⟩

end Go.Proofs.Qxb6600508a.Order
