import Derived.Test.Qxb6600508aKit
import Derived.Test.Qxb6600508aFmtPlain
import Derived.Laws.IdiomStrings
import Derived.Maps.AppendAt
namespace Go.Proofs.Qxb6600508a.Fmt
open Go.ChangeShapes Go.WideShapes Go.ChangeAt Go.RowKit Kit Plain

theorem info5 : (Try.prog.info? 5).map (fun i => (i.zero, i.size, i.bytes)) = some (some (.int .u8 0), 1, 1) := by kernel_rfl

/-- Bytes as cells. -/
def vals (R : List UInt8) : List Value := R.map fun c => .int .u8 (c.toNat : Int)
theorem vals_snoc (R : List UInt8) (c : UInt8) : vals (R ++ [c]) = vals R ++ [.int .u8 (c.toNat : Int)] := by simp [vals]
theorem vals_at (R : List UInt8) (j : Nat) (h : j < R.length) : (vals R)[j]? = some (.int .u8 (R[j].toNat : Int)) := by simp [vals, h]

/-- A slice value's length, for a measure. -/
def lenOf : Value → Nat | .slice _ n _ => n | _ => 0

theorem shape {w : World} {B : Nat} {v : Value} {n : Nat} {xs : List Value} (h : w.ownsRow B 5 1 v n xs) (hn : 0 < n) : ∃ g cap, v = .slice (some ⟨g, 0, none⟩) n cap ∧ g < w.heap.size := by
  have hlt := h.lt
  rcases h.2 with ⟨_, h0⟩ | ⟨g, cap, cur, hv, _⟩
  · omega
  · refine ⟨g, cap, hv, ?_⟩
    rw [hv] at hlt
    exact (hlt g rfl).2

theorem one_cell (n : Int) : ∀ u ∈ [Value.int .u8 n], u.oneCell' = true := by
  intro u hu; simp at hu; subst hu; rfl

/-- One byte appended: the row and old memory. -/
theorem rel_app {w wr w1 : World} {v v' : Value} {R : List UInt8} {c : UInt8} {o : Obj} {x : Int} (hx : (c.toNat : Int) = x) (hown : wr.ownsRow w.heap.size 5 1 v R.length (vals R)) (hb : Below w.heap.size w wr)
    (hown' : w1.ownsRow w.heap.size 5 1 v' (R.length + 1) (vals R ++ [.int .u8 x])) (hg : (wr.alloc o).grownBy w1 v.ownBlock) :
    w1.ownsRow w.heap.size 5 1 v' (R ++ [c]).length (vals (R ++ [c])) ∧ Below w.heap.size w w1 := by
  refine ⟨?_, ?_⟩
  · rw [vals_snoc, hx, List.length_append]; exact hown'
  · exact (hb.alloc hb.size o).grown hg (by have := hb.size; simp; omega) (fun k hk => (hown.lt k hk).1)

/-- The reading of the old row behind an append to the other. -/
theorem rev_kept {B g n cap h : Nat} {xs : List Value} {wr w1 : World} {o : Obj} (hrev : wr.ownsRow B 5 1 (.slice (some ⟨g, 0, none⟩) n cap) n xs) (hg : (wr.alloc o).grownBy w1 (some h)) (hgh : g < h) : w1.ownsRow B 5 1 (.slice (some ⟨g, 0, none⟩) n cap) n xs :=
  (hrev.alloc o).kept hg (Or.inr (by simp [Value.ownBlock]; omega))

theorem cell_in {B g n cap : Nat} {R : List UInt8} {w1 : World} (h : w1.ownsRow B 5 1 (.slice (some ⟨g, 0, none⟩) R.length cap) R.length (vals R)) (hn : n < R.length) : w1.cell? ⟨g, n, none⟩ = some (.int .u8 (R[n].toNat : Int)) := by
  rw [h.cellAt n (by omega), vals_at R n hn]

/-- One byte written to the new row: both rows, old memory. -/
theorem end_plain {w wr w1 : World} {g h cap L : Nat} {O R : List UInt8} {c : UInt8} {o : Obj} (hb : Below w.heap.size w wr)
    (hout : wr.ownsRow w.heap.size 5 1 (.slice (some ⟨h, 0, none⟩) O.length (L + 1)) O.length (vals O))
    (hrev : wr.ownsRow w.heap.size 5 1 (.slice (some ⟨g, 0, none⟩) R.length cap) R.length (vals R))
    (hout1 : w1.ownsRow w.heap.size 5 1 (.slice (some ⟨h, 0, none⟩) (O.length + 1) (L + 1)) (O.length + 1) (vals O ++ [.int .u8 (c.toNat : Int)])) (hg : (wr.alloc o).grownBy w1 (some h)) (hgh : g < h) :
    w1.ownsRow w.heap.size 5 1 (.slice (some ⟨h, 0, none⟩) (O ++ [c]).length (L + 1)) (O ++ [c]).length (vals (O ++ [c])) ∧
      w1.ownsRow w.heap.size 5 1 (.slice (some ⟨g, 0, none⟩) R.length cap) R.length (vals R) ∧ Below w.heap.size w w1 := by
  refine ⟨?_, rev_kept hrev hg hgh, ?_⟩
  · rw [vals_snoc, List.length_append]; exact hout1
  · exact (hb.alloc hb.size o).grown hg (by have := hb.size; simp; omega) (fun k hk => by cases hk; exact (hout.lt h rfl).1)

/-- Two bytes: the point and a digit. -/
theorem end_dot {w wr w1 w2 : World} {g h cap L : Nat} {O R : List UInt8} {c : UInt8} {o o2 : Obj} (hb : Below w.heap.size w wr)
    (hout : wr.ownsRow w.heap.size 5 1 (.slice (some ⟨h, 0, none⟩) O.length (L + 1)) O.length (vals O))
    (hrev : wr.ownsRow w.heap.size 5 1 (.slice (some ⟨g, 0, none⟩) R.length cap) R.length (vals R))
    (hg : (wr.alloc o).grownBy w1 (some h))
    (hout2 : w2.ownsRow w.heap.size 5 1 (.slice (some ⟨h, 0, none⟩) (O.length + 1 + 1) (L + 1)) (O.length + 1 + 1) (vals O ++ [.int .u8 46] ++ [.int .u8 (c.toNat : Int)])) (hg2 : (w1.alloc o2).grownBy w2 (some h)) (hgh : g < h) :
    w2.ownsRow w.heap.size 5 1 (.slice (some ⟨h, 0, none⟩) (O ++ [46, c]).length (L + 1)) (O ++ [46, c]).length (vals (O ++ [46, c])) ∧
      w2.ownsRow w.heap.size 5 1 (.slice (some ⟨g, 0, none⟩) R.length cap) R.length (vals R) ∧ Below w.heap.size w w2 := by
  refine ⟨?_, rev_kept (rev_kept hrev hg hgh) hg2 hgh, ?_⟩
  · have e : vals (O ++ [46, c]) = vals O ++ [.int .u8 46] ++ [.int .u8 (c.toNat : Int)] := by simp [vals]
    rw [e, List.length_append]; exact hout2
  · have h1 : Below w.heap.size w w1 := (hb.alloc hb.size o).grown hg (by have := hb.size; simp; omega) (fun k hk => by cases hk; exact (hout.lt h rfl).1)
    exact (h1.alloc h1.size o2).grown hg2 (by have := h1.size; simp; omega) (fun k hk => by cases hk; exact (hout.lt h rfl).1)

theorem take_rev {R : List UInt8} {n : Nat} (h : n < R.length) : (R.take (n + 1)).reverse = R[n] :: (R.take n).reverse := by
  rw [List.take_succ_eq_append_getElem h, List.reverse_append]; rfl

theorem step_dot {R O : List UInt8} {n p : Nat} (h : n < R.length) (hd : n + 1 = p) (hO : O ++ fmtD p (R.take (n + 1)).reverse = fmtD p R.reverse) :
    (O ++ [46, R[n]]) ++ fmtD p (R.take n).reverse = fmtD p R.reverse ∧ O.length + 2 ≤ R.length + 1 := by
  have e : (O ++ [46, R[n]]) ++ fmtD p (R.take n).reverse = fmtD p R.reverse := by
    rw [← hO, take_rev h, fmtD_dot (by rw [List.length_reverse, List.length_take]; omega), List.append_assoc]; rfl
  refine ⟨e, ?_⟩
  have l := congrArg List.length e
  have m := fmtD_size p R.reverse
  rw [List.length_reverse] at m
  rw [List.length_append, List.length_append] at l
  simp at l
  omega

theorem step_plain {R O : List UInt8} {n p : Nat} (h : n < R.length) (hd : ¬ n + 1 = p) (hO : O ++ fmtD p (R.take (n + 1)).reverse = fmtD p R.reverse) :
    (O ++ [R[n]]) ++ fmtD p (R.take n).reverse = fmtD p R.reverse ∧ O.length + 1 ≤ R.length + 1 := by
  have e : (O ++ [R[n]]) ++ fmtD p (R.take n).reverse = fmtD p R.reverse := by
    rw [← hO, take_rev h, fmtD_plain (by rw [List.length_reverse, List.length_take]; omega), List.append_assoc]; rfl
  refine ⟨e, ?_⟩
  have l := congrArg List.length e
  have m := fmtD_size p R.reverse
  rw [List.length_reverse] at m
  rw [List.length_append, List.length_append] at l
  simp at l
  omega

set_option maxHeartbeats 1000000 in
set_option maxRecDepth 100000 in
/-- 'formatUnits' (21) of a figure above nought, at few places. -/
theorem fmt_any (U pl : Int) (w : World) (h0 : 0 < U) (h1 : U ≤ 999999999999999999) (hp0 : 0 ≤ pl) (hp1 : pl ≤ 65536) :
    Calls Try.prog 21 #[.int .i64 U, .int .i32 pl] w fun e w' => ∃ D : List UInt8, e = .returned (.string ⟨(fmtD pl.toNat D).toArray⟩) ∧ alld D = true ∧ nval D = U ∧ pl < D.length ∧ D.length ≤ 65600 ∧ Below w.heap.size w w' := by
  obtain ⟨i0, hi, hz0, hz1, hz2⟩ := info_parts info5
  go_enter Try.func21, Try.ntmps21
  go_wp2
  go_loopw [0, 5] (fun x v wr => ∃ (m : Int) (R : List UInt8), 0 ≤ m ∧ m ≤ 999999999999999999 ∧ R.length ≤ 19 ∧ x = .int .i64 m ∧ wr.ownsRow w.heap.size 5 1 v R.length (vals R) ∧ Below w.heap.size w wr ∧ Hid (U = m * 10 ^ R.reverse.length + nval R.reverse) ∧ Hid (alld R.reverse = true)) (fun x _ _ => (intOf x).toNat)
  case atStart => exact ⟨U, [], by omega, h1, by simp, rfl, World.ownsRow_nil _ _ _ _, Below.refl _ _, (by show U = U * 10 ^ 0 + 0; simp), rfl⟩
  case round =>
    obtain ⟨m, R, hm0, hm1, hRl, rfl, hown, hb, hn, ha⟩ := hrel
    by_cases hm : 0 < m
    · have hr := cut_room hn.out ha.out hm (by omega)
      rw [List.length_reverse] at hr
      go_wp2_with (at_builtin; refine wpList_append_own _ rfl _ _ 42 rfl w.heap.size 5 i0 (.int .u8 0) 1 1 Try.underlying42 hi hz0 hz1 hz2 rfl (by decide) _ _ _ rfl (hown.alloc _) ⟨wr.heap.size, 0, none⟩ 1 1 [.int .u8 (48 + m % 10)] rfl rfl ?c1 ?c2 ?c3 ?c4 ?c5 ?_)
      case c1 => exact cell_one_new _ _ _
      case c2 => exact one_cell _
      case c3 => unfold maxLen; omega
      case c4 => omega
      case c5 => have := hb.size; simp; omega
      · intro v' w1 hown' hgrow _
        have hrel := rel_app (lastB_nat m) hown hb hown' hgrow
        clear hown' hgrow hown hb
        go_wp2
        go_roundw
        case rel =>
          refine ⟨m / 10, R ++ [lastB m], by omega, by omega, by simp; omega, rfl, hrel.1, hrel.2, ?_, ?_⟩
          · show U = _
            rw [List.reverse_append]
            exact cut_step hn.out
          · show alld _ = true
            rw [List.reverse_append]
            show alld (lastB m :: R.reverse) = true
            rw [alld_cons, lastB_dig, ha.out]; rfl
        case measure => simp [intOf]; omega
    · have hz : m = 0 := by omega
      have hnv : Hid (nval R.reverse = U) := by have := hn.out; rw [hz] at this; show _ = U; omega
      have hlp : 0 < R.length := by
        rcases Nat.eq_zero_or_pos R.length with e | e
        · have : R = [] := List.length_eq_zero_iff.1 e
          have h := hnv.out
          rw [this] at h
          have : nval (List.reverse []) = 0 := rfl
          omega
        · exact e
      clear hz hn
      obtain ⟨g, cap, hv, hgl⟩ := shape hown hlp
      rw [hv] at hown ⊢
      have hrl : (R.length : Int) ≤ 65600 := by omega
      go_wp2
      clear hm0 hm1 hRl hm
      go_loopw [5] (fun v wr => ∃ (R : List UInt8) (g cap : Nat), 0 < R.length ∧ (R.length : Int) ≤ 65600 ∧ v = .slice (some ⟨g, 0, none⟩) R.length cap ∧ wr.ownsRow w.heap.size 5 1 (.slice (some ⟨g, 0, none⟩) R.length cap) R.length (vals R) ∧ g < wr.heap.size ∧ Below w.heap.size w wr ∧ Hid (nval R.reverse = U) ∧ Hid (alld R.reverse = true)) (fun v _ => (pl + 1).toNat - lenOf v)
      case atStart => exact ⟨R, g, cap, hlp, hrl, rfl, hown, hgl, hb, hnv.out, ha.out⟩
      case round =>
        clear hown hb hnv ha hlp hrl hgl hv
        obtain ⟨R, g, cap, hlp, hrl, rfl, hown, hgl, hb, hnv, ha⟩ := hrel
        by_cases hlt : (R.length : Int) < pl + 1
        · go_wp2_with (at_builtin; refine wpList_append_own _ rfl _ _ 42 rfl w.heap.size 5 i0 (.int .u8 0) 1 1 Try.underlying42 hi hz0 hz1 hz2 rfl (by decide) _ _ _ rfl (hown.alloc _) ⟨wr.heap.size, 0, none⟩ 1 1 [.int .u8 48] rfl rfl ?c1 ?c2 ?c3 ?c4 ?c5 ?_)
          case c1 => exact cell_one_new _ _ _
          case c2 => exact one_cell _
          case c3 => unfold maxLen; omega
          case c4 => omega
          case c5 => have := hb.size; simp; omega
          · intro v' w1 hown' hgrow _
            have hrel := rel_app (c := 48) rfl hown hb hown' hgrow
            obtain ⟨g', cap', hv', hgl'⟩ := shape hrel.1 (by simp)
            clear hown' hgrow hown hb
            rw [hv'] at hrel ⊢
            go_wp2
            go_roundw
            case rel =>
              refine ⟨R ++ [48], g', cap', by simp, by simp; omega, rfl, hrel.1, hgl', hrel.2, ?_, ?_⟩
              · show nval _ = U
                rw [List.reverse_append]
                show nval (48 :: R.reverse) = U
                rw [nval_cons, hnv.out]
                simp
              · show alld _ = true
                rw [List.reverse_append]
                show alld (48 :: R.reverse) = true
                rw [alld_cons, ha.out]; rfl
            case measure => simp [lenOf]; omega
        · go_wp2_with (at_make; refine wpList_make_own _ rfl _ _ 42 rfl w.heap.size 5 i0 (.int .u8 0) 1 Try.underlying42 hi hz0 hz1 .i64 .i64 _ (R.length + 1) rfl rfl ?d1 ?d2 ?d3 ?d4 ?_)
          case d2 => omega
          case d3 => unfold maxLen; omega
          case d4 => exact hb.size
          · intro wm hout hgm
            obtain ⟨h, hh⟩ : ∃ h, h = wr.heap.size := ⟨_, rfl⟩
            have hrev := hown.kept hgm (Or.inr (by simp [Value.ownBlock]))
            have hbm := hb.grown hgm hb.size (fun k hk => by cases hk)
            rw [← hh] at hout hgl ⊢
            have hgh : g < h := hgl
            clear hown hb hgm hh hgl
            go_wp2
            go_loopw [6, 7] (fun v i wr => ∃ (q : Nat) (iv : Int) (O : List UInt8), q ≤ R.length ∧ -1 ≤ iv ∧ iv ≤ 65600 ∧ Hid (iv = (q : Int) - 1) ∧ v = .slice (some ⟨h, 0, none⟩) O.length (R.length + 1) ∧ i = .int .i64 iv ∧ wr.ownsRow w.heap.size 5 1 (.slice (some ⟨h, 0, none⟩) O.length (R.length + 1)) O.length (vals O) ∧
                wr.ownsRow w.heap.size 5 1 (.slice (some ⟨g, 0, none⟩) R.length cap) R.length (vals R) ∧ Below w.heap.size w wr ∧ Hid (O ++ fmtD pl.toNat (R.take q).reverse = fmtD pl.toNat R.reverse)) (fun _ i _ => (intOf i + 1).toNat)
            case atStart => exact ⟨R.length, _, [], Nat.le_refl _, by omega, by omega, rfl, rfl, rfl, hout, hrev, hbm, (by show _ = _; rw [List.take_length]; rfl)⟩
            case round =>
              clear hout hrev hbm
              obtain ⟨q, iv, O, hq, hi0, hi1, hiv, rfl, rfl, hout, hrev, hb, hO⟩ := hrel
              by_cases hpos : 0 ≤ iv
              · obtain ⟨n, rfl⟩ : ∃ n : Nat, iv = n := ⟨iv.toNat, by omega⟩
                have hqn : q = n + 1 := by have := hiv.out; omega
                clear hiv
                subst hqn
                have hnR : n < R.length := by omega
                have hcell : wr.cell? ⟨g, n, none⟩ = some (.int .u8 (R[n].toNat : Int)) := by rw [hrev.cellAt n (by omega), vals_at R n hnR]
                by_cases hdot : n + 1 = pl.toNat
                · have HO := step_dot hnR hdot hO.out
                  have hlen := HO.2
                  have HS : Hid _ := HO.1
                  have hpe1 : (n : Int) ≤ pl - 1 := by omega
                  have hpe2 : pl - 1 ≤ (n : Int) := by omega
                  clear HO hO hdot
                  go_wp2_with (first | (at_builtin; refine wpList_append_fits _ rfl (.tmp 48) (.tmp 49) 42 rfl w.heap.size 5 i0 1 Try.underlying42 hi hz1 h O.length (R.length + 1) (vals O) rfl (hout.alloc _) ⟨wr.heap.size, 0, none⟩ 1 1 [.int .u8 46] rfl rfl (cell_one_new _ _ _) (one_cell _) (by omega) ?_; intro w1 hout1 hgrow1; have hrev1 := rev_kept hrev hgrow1 hgh; have hcell1 := cell_in hrev1 hnR) | (at_builtin; refine wpList_append_fits _ rfl (.tmp 51) (.tmp 56) 42 rfl w.heap.size 5 i0 1 Try.underlying42 hi hz1 h (O.length + 1) (R.length + 1) (vals O ++ [.int .u8 46]) rfl (hout1.alloc _) ⟨w1.heap.size, 0, none⟩ 1 1 [.int .u8 (R[n].toNat : Int)] rfl rfl (cell_one_new _ _ _) (one_cell _) (by omega) ?_; intro w2 hout2 hgrow2))
                  have hE := end_dot hb hout hrev hgrow1 hout2 hgrow2 hgh
                  clear hout hrev hout1 hgrow1 hrev1 hcell1 hout2 hgrow2 hb hcell
                  go_roundw
                  case rel => exact ⟨n, _, O ++ [46, R[n]], by omega, by omega, by omega, rfl, by rw [List.length_append]; rfl, rfl, hE.1, hE.2.1, hE.2.2, HS.out⟩
                  case measure => simp [intOf]
                · have HO := step_plain hnR hdot hO.out
                  have hlen := HO.2
                  have HS : Hid _ := HO.1
                  have hne : ((n : Int) == pl - 1) = false := by rw [beq_eq_false_iff_ne]; omega
                  clear HO hO hdot
                  by_cases hpp : 0 < pl
                  all_goals
                    go_wp2_with (first | (at_builtin; refine wpList_append_fits _ rfl (.tmp 51) (.tmp 56) 42 rfl w.heap.size 5 i0 1 Try.underlying42 hi hz1 h O.length (R.length + 1) (vals O) rfl (hout.alloc _) ⟨wr.heap.size, 0, none⟩ 1 1 [.int .u8 (R[n].toNat : Int)] rfl rfl (cell_one_new _ _ _) (one_cell _) (by omega) ?_; intro w1 hout1 hgrow1) | fail)
                    have hE := end_plain hb hout hrev hout1 hgrow1 hgh
                    clear hout hrev hout1 hgrow1 hb hcell
                    go_roundw
                    case rel => exact ⟨n, _, O ++ [R[n]], by omega, by omega, by omega, rfl, by rw [List.length_append]; rfl, rfl, hE.1, hE.2.1, hE.2.2, HS.out⟩
                    case measure => simp [intOf]
              · have hq0 : q = 0 := by have := hiv.out; omega
                clear hiv
                subst hq0
                have hD : Hid (O = fmtD pl.toNat R.reverse) := by
                  have := hO.out
                  rw [List.take_zero, List.reverse_nil, fmtD_nil, List.append_nil] at this
                  exact this
                have hcv : (convert 42 9 (.slice (some ⟨h, 0, none⟩) O.length (R.length + 1))).run Try.prog wr = .ok (.string ⟨O.toArray⟩) wr :=
                  run_convert_bytes_back (P := Try.prog) wr 42 9 5 ⟨h, 0, none⟩ (R.length + 1) O Try.underlying42 Try.underlying5 Try.underlying9 (fun j hj => by
                    have e : (⟨h, 0, none⟩ : Addr).add j = ⟨h, j, none⟩ := by unfold Addr.add; simp; omega
                    rw [e, hout.cellAt j (by omega), vals_at O j hj])
                clear hO
                go_wp2
                go_ret
                exact ⟨R.reverse, by rw [← hD.out]; rfl, ha.out, hnv.out, by rw [List.length_reverse]; omega, by rw [List.length_reverse]; omega, hb⟩

end Go.Proofs.Qxb6600508a.Fmt
