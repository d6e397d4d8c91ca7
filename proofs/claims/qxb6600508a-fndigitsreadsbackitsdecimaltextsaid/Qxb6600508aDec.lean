import Derived.Test.Qxb6600508aKit
import Derived.Test.Qxb6600508aPlain
import Derived.Laws.IdiomStrings
namespace Go.Proofs.Qxb6600508a.Dec
open Go.ChangeShapes Go.WideShapes Go.ChangeAt Go.RowKit Kit Plain

theorem cells5 : Try.prog.cellsOf 5 = 1 := by kernel_rfl

/-- 'buf[p:]' of the 24 bytes. -/
theorem slice_buf (b p : Nat) (hp : p < 24) (W : World) :
    (Instr.sliceAt 41 (.pointer (some ⟨b, 0, none⟩)) (some (.int .i64 (p : Int))) none none).run Try.prog W = .ok (.slice (some ⟨b, p, none⟩) (24 - p) (24 - p)) W := by
  have hal : Try.prog.arrayLen 41 = 24 := by kernel_rfl
  have hel : Try.prog.elem 41 = 5 := by kernel_rfl
  rw [run_sliceAt_array_l W 41 ⟨b, 0, none⟩ (by rw [hal, hel]; exact Try.underlying41) .i64 (p : Int) (by omega) (by rw [hal]; omega)]
  rw [hal, hel]
  have hsz : (sizeOf 5).run Try.prog W = .ok 1 W := by kernel_rfl
  rw [hsz]
  show Result.ok (slicedAt ⟨b, 0, none⟩ ((p : Int)).toNat 24 24 1) W = _
  rw [Int.toNat_natCast]
  unfold slicedAt
  rw [if_neg (by omega)]
  simp [Addr.add]
  omega

/-- What the loop has in hand: the digits written so far, at the end of the 24 cells. -/
theorem step_cells (A : Array Value) (p : Nat) (ds : List UInt8) (m : Int) (hA : A.size = 24) (hp0 : 0 < p) (hp : p ≤ 24) (hc : ∀ j (hj : j < ds.length), A[p + j]? = some (.int .u8 ds[j].toNat)) :
    ∀ j (hj : j < (lastB m :: ds).length), (A.setIfInBounds (p - 1) (.int .u8 (48 + m % 10)))[p - 1 + j]? = some (.int .u8 (lastB m :: ds)[j].toNat) := by
  intro j hj
  match j, hj with
  | 0, _ =>
    rw [Nat.add_zero, Array.getElem?_setIfInBounds_self_of_lt (by omega), List.getElem_cons_zero, lastB_nat]
  | j + 1, hj =>
    rw [Array.getElem?_setIfInBounds_ne (by omega), List.getElem_cons_succ, show p - 1 + (j + 1) = p + j by omega]
    exact hc j (by simpa using hj)

set_option maxHeartbeats 400000 in
/-- 'decimalText' (15) of a number above nought. -/
theorem dec_pos (n : Int) (w : World) (h0 : 0 < n) (h1 : n ≤ 9223372036854775807) :
    Calls Try.prog 15 #[.int .i64 n] w fun e w' => ∃ ds : List UInt8, e = .returned (.string ⟨ds.toArray⟩) ∧ ds.length ≤ 24 ∧ alld ds = true ∧ nval ds = n ∧ Below w.heap.size w w' := by
  go_enter Try.func15, Try.ntmps15
  go_wp2
  go_loopw [0, 4] (fun x i wr => ∃ (m : Int) (p : Nat) (ds : List UInt8) (A : Array Value), 0 ≤ m ∧ m ≤ 9223372036854775807 ∧ p ≤ 24 ∧ ds.length + p = 24 ∧ x = .int .i64 m ∧ i = .int .i64 p ∧ Hid (n = m * 10 ^ ds.length + nval ds) ∧ Hid (alld ds = true) ∧ Hid (A.size = 24 ∧ ∀ j (hj : j < ds.length), A[p + j]? = some (.int .u8 ds[j].toNat)) ∧ wr = w.alloc (.cells A 41)) (fun x _ _ => (intOf x).toNat)
  case atStart => exact ⟨n, 24, [], _, by omega, h1, by omega, rfl, rfl, rfl, (by show n = n * 10 ^ 0 + 0; simp), rfl, ⟨rfl, fun j hj => absurd hj (by simp)⟩, rfl⟩
  case round =>
    obtain ⟨m, p, ds, A, hm0, hm1, hp, hl, rfl, rfl, hn, ha, hA, rfl⟩ := hrel
    by_cases hm : 0 < m
    · have hr := cut_room hn.out ha.out hm h1
      have hp0 : 0 < p := by omega
      obtain ⟨v, hv⟩ : ∃ v, A[p - 1]? = some v := ⟨A[p - 1]'(by have := hA.out.1; omega), Array.getElem?_eq_getElem _⟩
      go_wp2
      go_roundw
      case rel =>
        exact ⟨m / 10, p - 1, lastB m :: ds, _, by omega, by omega, by omega, by simp; omega, rfl, by go_num, cut_step hn.out, (by show alld _ = true; rw [alld_cons, lastB_dig, ha.out]; rfl), ⟨by simpa using hA.out.1, step_cells A p ds m hA.out.1 hp0 hp hA.out.2⟩, rfl⟩
      case measure => simp [intOf]; omega
    · have hz : m = 0 := by omega
      have hnv : Hid (nval ds = n) := by have := hn.out; rw [hz] at this; show nval ds = n; omega
      have hlp : 0 < ds.length := by
        rcases Nat.eq_zero_or_pos ds.length with e | e
        · have : ds = [] := List.length_eq_zero_iff.1 e
          have h := hnv.out
          rw [this, nval_nil] at h
          omega
        · exact e
      clear hz
      have hsl := slice_buf w.heap.size p (by omega)
      have hcv : (convert 42 9 (.slice (some ⟨w.heap.size, p, none⟩) (24 - p) (24 - p))).run Try.prog (w.alloc (.cells A 41)) = .ok (.string ⟨ds.toArray⟩) (w.alloc (.cells A 41)) := by
        have := run_convert_bytes_back (P := Try.prog) (w.alloc (.cells A 41)) 42 9 5 ⟨w.heap.size, p, none⟩ (24 - p) ds Try.underlying42 Try.underlying5 Try.underlying9 (fun j hj => by
          have e : (⟨w.heap.size, p, none⟩ : Addr).add j = ⟨w.heap.size, p + j, none⟩ := by unfold Addr.add; simp
          rw [e, World.cell?_alloc_mark]
          exact hA.out.2 j hj)
        rw [show ds.length = 24 - p by omega] at this
        exact this
      go_wp2
      go_ret
      exact ⟨ds, rfl, by omega, ha.out, hnv.out, (Below.refl _ _).alloc (Nat.le_refl _) _⟩

/-- 'decimalText' (15) of a number from nought on. -/
theorem dec_any (n : Int) (w : World) (h0 : 0 ≤ n) (h1 : n ≤ 9223372036854775807) :
    Calls Try.prog 15 #[.int .i64 n] w fun e w' => ∃ ds : List UInt8, e = .returned (.string ⟨ds.toArray⟩) ∧ ds.length ≤ 24 ∧ alld ds = true ∧ nval ds = n ∧ Below w.heap.size w w' := by
  rcases Int.lt_or_eq_of_le h0 with h | h
  · exact dec_pos n w h h1
  · subst h
    go_enter Try.func15, Try.ntmps15
    go_wp2
    go_ret
    exact ⟨[48], rfl, by decide, by decide, by decide, Below.refl _ _⟩

end Go.Proofs.Qxb6600508a.Dec
