import Derived.Test.Qxb6600508aKit
import Derived.Test.Qxb6600508aBytesPlain
import Derived.Laws.ResultCell
namespace Go.Proofs.Qxb6600508a.Bias
open Go.ChangeShapes Go.WideShapes Go.ChangeAt Go.RowKit Kit Bytes

/-- The 16 cells behind k rounds. -/
def cellB (H lo : Int) (k j : Nat) : Int := if j < 8 then (if 7 - j < k then H / 2 ^ (8 * (7 - j)) % 256 else 0) else (if 15 - j < k then lo / 2 ^ (8 * (15 - j)) % 256 else 0)
def arrB (H lo : Int) (k : Nat) : Array Value := Array.ofFn (n := 16) fun j => .int .u8 (cellB H lo k j.val)

theorem arr_size (H lo : Int) (k : Nat) : (arrB H lo k).size = 16 := by simp [arrB]
theorem arr_at (H lo : Int) (k j : Nat) (hj : j < 16) : (arrB H lo k)[j]'(by rw [arr_size]; exact hj) = .int .u8 (cellB H lo k j) := by simp [arrB]

theorem arr_step (H lo : Int) (k : Nat) (hk : k < 8) :
    ((arrB H lo k).setIfInBounds (7 - k) (.int .u8 (H / 2 ^ (8 * k) % 256))).setIfInBounds (15 - k) (.int .u8 (lo / 2 ^ (8 * k) % 256)) = arrB H lo (k + 1) := by
  apply Array.ext
  · simp [arr_size]
  · intro j h1 h2
    have hj : j < 16 := by rw [arr_size] at h2; exact h2
    have s0 : j < (arrB H lo k).size := by rw [arr_size]; exact hj
    rw [arr_at H lo (k + 1) j hj, Array.getElem_setIfInBounds (by simpa using s0), Array.getElem_setIfInBounds s0, arr_at H lo k j hj]
    unfold cellB
    by_cases e1 : 15 - k = j
    · rw [if_pos e1, if_neg (by omega), if_pos (by omega), show 15 - j = k by omega]
    · rw [if_neg e1]
      by_cases e2 : 7 - k = j
      · rw [if_pos e2, if_pos (by omega), if_pos (by omega), show 7 - j = k by omega]
      · rw [if_neg e2]
        by_cases e3 : j < 8
        · rw [if_pos e3, if_pos e3]
          by_cases e4 : 7 - j < k
          · rw [if_pos e4, if_pos (by omega)]
          · rw [if_neg e4, if_neg (by omega)]
        · rw [if_neg e3, if_neg e3]
          by_cases e4 : 15 - j < k
          · rw [if_pos e4, if_pos (by omega)]
          · rw [if_neg e4, if_neg (by omega)]

theorem arr_end (H lo : Int) : arrB H lo 8 = #[.int .u8 (H / 2 ^ 56 % 256), .int .u8 (H / 2 ^ 48 % 256), .int .u8 (H / 2 ^ 40 % 256), .int .u8 (H / 2 ^ 32 % 256), .int .u8 (H / 2 ^ 24 % 256), .int .u8 (H / 2 ^ 16 % 256), .int .u8 (H / 2 ^ 8 % 256), .int .u8 (H / 2 ^ 0 % 256), .int .u8 (lo / 2 ^ 56 % 256), .int .u8 (lo / 2 ^ 48 % 256), .int .u8 (lo / 2 ^ 40 % 256), .int .u8 (lo / 2 ^ 32 % 256), .int .u8 (lo / 2 ^ 24 % 256), .int .u8 (lo / 2 ^ 16 % 256), .int .u8 (lo / 2 ^ 8 % 256), .int .u8 (lo / 2 ^ 0 % 256)] := rfl
theorem arr_zero (H lo : Int) : arrB H lo 0 = #[.int .u8 0, .int .u8 0, .int .u8 0, .int .u8 0, .int .u8 0, .int .u8 0, .int .u8 0, .int .u8 0, .int .u8 0, .int .u8 0, .int .u8 0, .int .u8 0, .int .u8 0, .int .u8 0, .int .u8 0, .int .u8 0] := rfl

theorem arr_num (hi lo : Int) (k : 0 ≤ lo ∧ lo ≤ 18446744073709551615) : arrB (hi + 9223372036854775808) lo 8 = #[.int .u8 (byt (num hi lo) 0), .int .u8 (byt (num hi lo) 1), .int .u8 (byt (num hi lo) 2), .int .u8 (byt (num hi lo) 3), .int .u8 (byt (num hi lo) 4), .int .u8 (byt (num hi lo) 5), .int .u8 (byt (num hi lo) 6), .int .u8 (byt (num hi lo) 7), .int .u8 (byt (num hi lo) 8), .int .u8 (byt (num hi lo) 9), .int .u8 (byt (num hi lo) 10), .int .u8 (byt (num hi lo) 11), .int .u8 (byt (num hi lo) 12), .int .u8 (byt (num hi lo) 13), .int .u8 (byt (num hi lo) 14), .int .u8 (byt (num hi lo) 15)] := by
  rw [arr_end]
  rw [byt0 hi lo k, byt1 hi lo k, byt2 hi lo k, byt3 hi lo k, byt4 hi lo k, byt5 hi lo k, byt6 hi lo k, byt7 hi lo k, byt8 hi lo k, byt9 hi lo k, byt10 hi lo k, byt11 hi lo k, byt12 hi lo k, byt13 hi lo k, byt14 hi lo k, byt15 hi lo k]

set_option maxHeartbeats 1000000 in
/-- 'biasedBytes' (23): the 16 bytes of the number. -/
theorem bias_any (hi lo : Int) (w : World) (h0 : -9223372036854775808 ≤ hi ∧ hi ≤ 9223372036854775807) (h1 : 0 ≤ lo ∧ lo ≤ 18446744073709551615) :
    Calls Try.prog 23 #[.int .i64 hi, .int .u64 lo] w fun e w' => e = .returned (.agg #[.int .u8 (byt (num hi lo) 0), .int .u8 (byt (num hi lo) 1), .int .u8 (byt (num hi lo) 2), .int .u8 (byt (num hi lo) 3), .int .u8 (byt (num hi lo) 4), .int .u8 (byt (num hi lo) 5), .int .u8 (byt (num hi lo) 6), .int .u8 (byt (num hi lo) 7), .int .u8 (byt (num hi lo) 8), .int .u8 (byt (num hi lo) 9), .int .u8 (byt (num hi lo) 10), .int .u8 (byt (num hi lo) 11), .int .u8 (byt (num hi lo) 12), .int .u8 (byt (num hi lo) 13), .int .u8 (byt (num hi lo) 14), .int .u8 (byt (num hi lo) 15)]) ∧ Below w.heap.size w w' := by
  have HF : Hid _ := flip hi h0
  have HN : Hid _ := arr_num hi lo h1
  obtain ⟨N, hN⟩ : ∃ N, N = num hi lo := ⟨_, rfl⟩
  have HN2 := HN.out
  rw [← hN] at HN2
  rw [← hN]
  have HM : Hid _ := HN2
  clear HN HN2 hN
  go_enter Try.func23, Try.ntmps23
  go_wp2
  rw [HF.out]
  obtain ⟨H, hH⟩ : ∃ H, H = hi + 9223372036854775808 := ⟨_, rfl⟩
  have hH0 : 0 ≤ H := by omega
  have hH1 : H ≤ 18446744073709551615 := by omega
  rw [← hH]
  have HA := HM.out
  rw [← hH] at HA
  have HE : Hid _ := HA
  obtain ⟨hl0, hl1⟩ := h1
  clear hH HM HA h0 HF
  go_loopw [7] (fun i wr => ∃ (k : Nat) (Z A : Array Value), k ≤ 8 ∧ i = .int .i64 k ∧ Hid (Z = arrB 0 0 0) ∧ Hid (A = arrB H lo k) ∧ wr = (w.alloc (.cells Z 35)).alloc (.cells A 35)) (fun i _ => 8 - (intOf i).toNat)
  case atStart => exact ⟨0, _, _, by omega, rfl, (arr_zero 0 0).symm, (arr_zero H lo).symm, rfl⟩
  case round =>
    obtain ⟨k, Z, A, hk, rfl, hZ, hA, rfl⟩ := hrel
    by_cases hlt : k < 8
    · have hsz : A.size = 16 := by rw [hA.out, arr_size]
      obtain ⟨v, hv⟩ : ∃ v, A[7 - k]? = some v := ⟨_, Array.getElem?_eq_getElem (by omega)⟩
      obtain ⟨v2, hv2⟩ : ∃ v, (A.setIfInBounds (7 - k) (.int .u8 (H / 2 ^ (8 * k) % 256)))[15 - k]? = some v := ⟨_, Array.getElem?_eq_getElem (by rw [Array.size_setIfInBounds]; omega)⟩
      have HS : Hid ((A.setIfInBounds (7 - k) (.int .u8 (H / 2 ^ (8 * k) % 256))).setIfInBounds (15 - k) (.int .u8 (lo / 2 ^ (8 * k) % 256)) = arrB H lo (k + 1)) := by rw [hA.out]; exact arr_step H lo k hlt
      clear hA
      go_wp2
      go_roundw
      case rel => exact ⟨k + 1, Z, _, by omega, by go_num, hZ, HS, rfl⟩
      case measure => simp [intOf]; omega
    · have hk8 : k = 8 := by omega
      subst hk8
      have eA : A = _ := hA.out.trans HE.out
      have eZ : Z = _ := hZ.out.trans (arr_zero 0 0)
      clear hA hZ HE
      subst eA
      subst eZ
      go_wp2
      exact bodyPost_ret (v := .agg #[.int .u8 (byt N 0), .int .u8 (byt N 1), .int .u8 (byt N 2), .int .u8 (byt N 3), .int .u8 (byt N 4), .int .u8 (byt N 5), .int .u8 (byt N 6), .int .u8 (byt N 7), .int .u8 (byt N 8), .int .u8 (byt N 9), .int .u8 (byt N 10), .int .u8 (byt N 11), .int .u8 (byt N 12), .int .u8 (byt N 13), .int .u8 (byt N 14), .int .u8 (byt N 15)]) (by simp [results, Try.results23, go_sem]) rfl ⟨rfl, ((Below.refl _ _).alloc (Nat.le_refl _) _).alloc (by simp) _⟩

end Go.Proofs.Qxb6600508a.Bias
