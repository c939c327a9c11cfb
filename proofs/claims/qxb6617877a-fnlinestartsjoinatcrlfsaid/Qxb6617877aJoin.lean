/-
  The walk of 'FnLineStartsJoinAtCRLF' (function 4).
-/
import Derived.Test.Qxb6617877aPrep
import Derived.Deep.QuietTactic
import Derived.BigQuiet
namespace Go.Proofs.Qxb6617877a
open Go.RowKit Plain
set_option linter.unusedVariables false

theorem join_big (a0 : Option Addr) (n0 c0 : Nat) (a1 : Option Addr) (n1 c1 : Nat) (w : World) (h0 : n0 ≤ maxLen) (h1 : n1 ≤ maxLen) (h : 524288 < n0 ∨ 524288 < n1) :
    Calls Try.prog 4 #[.slice a0 n0 c0, .slice a1 n1 c1] w fun e w' => e = .returned (.bool true) ∧ Below w.heap.size w w' := by
  unfold maxLen at h0 h1
  by_cases hA : n0 ≤ 524288
  · have hB : 524288 < n1 := by omega
    clear h
    go_enter Try.func4, Try.ntmps4
    go_wp2
    all_goals (go_ret; exact ⟨rfl, Below.refl _ _⟩)
  · clear h
    go_enter Try.func4, Try.ntmps4
    go_wp2
    all_goals (go_ret; exact ⟨rfl, Below.refl _ _⟩)

theorem below_drew {B : Nat} {a w : World} (q : Nat) (h : Below B a w) : Below B a (w.drewN q) := ⟨h.os, h.tape, h.output, h.size, h.block⟩

/-- The plain law, told by functions of the place. -/
theorem join_facts (l0 l1 : List Int) (n0 n1 : Nat) (h0 : l0.length = n0) (h1 : l1.length = n1) (b0 : n0 ≤ 524288) (b1 : n1 ≤ 524288) :
    ∃ (ma mb : Nat) (A B G : Nat → Int), (starts l0 n0).length = ma ∧ (starts l1 n1).length = mb ∧ (starts (l0 ++ (13 :: 10 :: l1)) (n0 + 2 + n1)).length = ma + mb ∧
      (∀ j, (starts l0 n0).getD j 0 = A j) ∧ (∀ j, (starts l1 n1).getD j 0 = B j) ∧ (∀ j, (starts (l0 ++ (13 :: 10 :: l1)) (n0 + 2 + n1)).getD j 0 = G j) ∧
      1 ≤ ma ∧ 1 ≤ mb ∧ ma ≤ 1000000 ∧ mb ≤ 1000000 ∧ (∀ j, j < ma → G j = A j) ∧ G ma = (n0 : Int) + 2 ∧ (∀ j, 1 ≤ j → j < mb → G (ma + j) = B j + ((n0 : Int) + 2)) ∧ (∀ j, 0 ≤ B j ∧ B j ≤ 1000000) := by
  subst h0 h1
  refine ⟨_, _, fun j => (starts l0 l0.length).getD j 0, fun j => (starts l1 l1.length).getD j 0, fun j => (starts (l0 ++ (13 :: 10 :: l1)) (l0.length + 2 + l1.length)).getD j 0, rfl, rfl, ?_, fun _ => rfl, fun _ => rfl, fun _ => rfl, starts_pos _ _, starts_pos _ _, ?_, ?_, ?_, ?_, ?_, ?_⟩
  · rw [starts_crlf]; simp [starts]; omega
  · have := starts_length l0 l0.length; omega
  · have := starts_length l1 l1.length; omega
  · intro j hj
    show (starts (l0 ++ (13 :: 10 :: l1)) (l0.length + 2 + l1.length)).getD j 0 = (starts l0 l0.length).getD j 0
    rw [starts_crlf]; simp only [List.getD_eq_getElem?_getD]; rw [List.getElem?_append_left hj]
  · show (starts (l0 ++ (13 :: 10 :: l1)) (l0.length + 2 + l1.length)).getD _ 0 = _
    rw [starts_crlf]; simp only [List.getD_eq_getElem?_getD]; rw [List.getElem?_append_right (Nat.le_refl _)]; simp
  · intro j hj hj'
    show (starts (l0 ++ (13 :: 10 :: l1)) (l0.length + 2 + l1.length)).getD _ 0 = (starts l1 l1.length).getD j 0 + _
    have hj2 : j - 1 < (tail (byt l1) l1.length).length := by simp [starts] at hj'; omega
    rw [starts_crlf]; simp only [List.getD_eq_getElem?_getD]; rw [List.getElem?_append_right (by omega)]
    obtain ⟨i, rfl⟩ : ∃ i, j = i + 1 := ⟨j - 1, by omega⟩
    have e : (starts l0 l0.length).length + (i + 1) - (starts l0 l0.length).length = i + 1 := by omega
    simp only [Nat.add_sub_cancel] at hj2
    rw [e]
    simp [starts, hj2]
  · intro j
    have := starts_bound l1 l1.length j
    show 0 ≤ (starts l1 l1.length).getD j 0 ∧ (starts l1 l1.length).getD j 0 ≤ 1000000
    omega

set_option maxRecDepth 100000 in
set_option maxHeartbeats 2000000 in
theorem join_main (a0 : Option Addr) (n0 c0 : Nat) (l0 : List Int) (a1 : Option Addr) (n1 c1 : Nat) (l1 : List Int) (w : World) (I0 : Inp w a0 n0 c0 l0) (I1 : Inp w a1 n1 c1 l1) (h0 : n0 ≤ 524288) (h1 : n1 ≤ 524288) :
    Calls Try.prog 4 #[.slice a0 n0 c0, .slice a1 n1 c1] w fun e w' => e = .returned (.bool true) ∧ Below w.heap.size w w' := by
  obtain ⟨i5, hi5, hz0, hz1, hz2⟩ := info_parts Try.info5
  have hnn := fun (w : World) (a : Option Addr) (n c n' c' : Nat) => run_neq_slice_nil_any (P := Try.prog) w 22 5 a n c n' c' Try.underlying22
  go_enter Try.func4, Try.ntmps4
  go_upto_if 25 with (go_at_call 12; refine (zz12 _ _ _ _ _ _ _ h0 h1).mono ?_; rintro e w' ⟨rfl, rfl⟩)
  go_cut [0] (fun v wx => ∃ ao c, v = .slice ao n0 c ∧ Prep w.heap.size wx ao c l0 ∧ Below w.heap.size w wx)
  case first =>
    rcases I0.row with ⟨rfl, rfl, rfl⟩ | ⟨x, rfl, hcap, hcell⟩
    · go_wp2
      go_meet
      case rel => exact ⟨none, 0, rfl, .inl ⟨rfl, rfl, List.eq_nil_of_length_eq_zero I0.size⟩, Below.refl _ _⟩
    · have hb : i5.bytes * n0 ≤ 281474976710656 := by rw [hz2]; omega
      go_wp2_with (first
        | (at_make; refine wpList_make_full _ rfl _ _ 22 rfl w.heap.size 5 i5 (.int .u8 0) 1 Try.underlying22 hi5 hz0 hz1 .i64 .i64 _ _ n0 rfl rfl rfl rfl hb (by unfold maxLen; omega) (Nat.le_refl _) ?_; intro wm hown hgm; obtain ⟨cur, hrow, hcl, -⟩ := row_of_own hown; have hbm := below_of_grown hgm (by simp); clear hown hgm)
        | (refine wpList_copy_splice rfl (.tmp 29) (.tmp 30) 22 22 rfl 5 Try.underlying22 Try.size5 _ _ _ _ _ _ rfl rfl w.heap.size 0 cur 5 hrow (l0.map (Value.int .u8)) (by simp [I0.size]) (fun _ => ⟨rfl, x, rfl, fun j v hj => cell_later hbm (hcell j v hj)⟩) (by simp [I0.size, hcl]) (ints_oneCell _ _) w.heap.size w hbm (Nat.le_refl _) ?_; intro wc HG hbc))
      go_meet
      case rel => exact ⟨_, _, by rw [← I0.size], prep_of_copy (Nat.le_refl _) HG.out (by rw [hcl, I0.size]) (by rw [I0.size]; omega) I0.byte, hbc⟩
  case rest =>
    obtain ⟨ao0, d0, rfl, P0, hb0⟩ := hcut
    clear hi5 hz0 hz1 hz2
    obtain ⟨i5, hi5, hz0, hz1, hz2⟩ := info_parts Try.info5
    have HP0 : Hid (Prep w.heap.size wc ao0 d0 l0) := P0
    have HB0 : Hid (Below w.heap.size w wc) := hb0
    clear P0 hb0
    obtain ⟨wa, hwa⟩ : ∃ wa, wa = wc := ⟨_, rfl⟩
    subst hwa
    go_upto_if 34 with fail
    go_cut [1] (fun v wx => ∃ ao c, v = .slice ao n1 c ∧ Prep w.heap.size wx ao c l1 ∧ Below wa.heap.size wa wx)
    case first =>
      rcases I1.row with ⟨rfl, rfl, rfl⟩ | ⟨x, rfl, hcap, hcell⟩
      · go_wp2
        go_meet
        case rel => exact ⟨none, 0, rfl, .inl ⟨rfl, rfl, List.eq_nil_of_length_eq_zero I1.size⟩, Below.refl _ _⟩
      · have hb : i5.bytes * n1 ≤ 281474976710656 := by rw [hz2]; omega
        go_wp2_with (first
          | (at_make; refine wpList_make_full _ rfl _ _ 22 rfl wa.heap.size 5 i5 (.int .u8 0) 1 Try.underlying22 hi5 hz0 hz1 .i64 .i64 _ _ n1 rfl rfl rfl rfl hb (by unfold maxLen; omega) (Nat.le_refl _) ?_; intro wm hown hgm; obtain ⟨cur, hrow, hcl, -⟩ := row_of_own hown; have hbm := below_of_grown hgm (by simp); clear hown hgm)
          | (refine wpList_copy_splice rfl (.tmp 38) (.tmp 39) 22 22 rfl 5 Try.underlying22 Try.size5 _ _ _ _ _ _ rfl rfl wa.heap.size 0 cur 5 hrow (l1.map (Value.int .u8)) (by simp [I1.size]) (fun _ => ⟨rfl, x, rfl, fun j v hj => cell_later hbm (cell_later HB0.out (hcell j v hj))⟩) (by simp [I1.size, hcl]) (ints_oneCell _ _) wa.heap.size wa hbm (Nat.le_refl _) ?_; intro wd HG hbc))
        go_meet
        case rel => exact ⟨_, _, by rw [← I1.size], prep_of_copy HB0.out.size HG.out (by rw [hcl, I1.size]) (by rw [I1.size]; omega) I1.byte, hbc⟩
    case rest =>
      obtain ⟨ao1, d1, rfl, P1, hb1⟩ := hcut
      have HP1 : Hid (Prep w.heap.size wc ao1 d1 l1) := P1
      have HP0' : Hid (Prep w.heap.size wc ao0 d0 l0) := HP0.out.below hb1
      have HB1 : Hid (Below w.heap.size w wc) := HB0.out.trans (hb1.mono HB0.out.size)
      have hwc : w.heap.size ≤ wc.heap.size := HB1.out.size
      clear P1 hb1 HP0 HB0
      have s0 := I0.size
      have s1 := I1.size
      have hb : i5.bytes * (n0 + n1 + 2) ≤ 281474976710656 := by rw [hz2]; omega
      go_wp2_with (first
        | (at_make; refine wpList_make_own _ rfl _ _ 22 rfl wc.heap.size 5 i5 (.int .u8 0) 1 Try.underlying22 hi5 hz0 hz1 .i64 .i64 _ (n0 + n1 + 2) rfl rfl (by omega) hb (by unfold maxLen; omega) (Nat.le_refl _) ?_; intro wm hown hgm; have hbm := below_of_grown hgm (by simp); clear hgm)
        | (at_builtin; refine wpList_append_fits_any _ rfl (.tmp 49) (.tmp 50) 22 rfl wc.heap.size 5 i5 1 Try.underlying22 hi5 hz1 wc.heap.size 0 (n0 + n1 + 2) _ rfl hown ao0 n0 d0 (l0.map (Value.int .u8)) rfl (by simp [s0]) (by rw [← s0]; exact HP0'.out.nothing) (HP0'.out.below hbm).cells (ints_oneCell _ _) (by omega) ?_; intro w1 hown1 hg1; have hbm1 := hbm.grown hg1 hbm.size (by simp); clear hg1; simp only [Nat.zero_add, List.nil_append] at hown1)
        | (at_builtin; refine wpList_append_fits _ rfl (.tmp 52) (.tmp 53) 22 rfl wc.heap.size 5 i5 1 Try.underlying22 hi5 hz1 wc.heap.size n0 (n0 + n1 + 2) _ rfl (hown1.alloc _) ⟨w1.heap.size, 0, none⟩ 2 2 [.int .u8 13, .int .u8 10] rfl rfl (two_new _ _ _ _) (two_cells _ _ _) (by omega) ?_; intro w2 hown2 hg2; have hbm2 := (hbm1.alloc hbm1.size _).grown hg2 (hbm1.alloc hbm1.size _).size (by simp); clear hg2)
        | (at_builtin; refine wpList_append_fits_any _ rfl (.tmp 55) (.tmp 56) 22 rfl wc.heap.size 5 i5 1 Try.underlying22 hi5 hz1 wc.heap.size (n0 + 2) (n0 + n1 + 2) _ rfl hown2 ao1 n1 d1 (l1.map (Value.int .u8)) rfl (by simp [s1]) (by rw [← s1]; exact HP1.out.nothing) (HP1.out.below hbm2).cells (ints_oneCell _ _) (by omega) ?_; intro w3 hown3 hg3; have hbm3 := hbm2.grown hg3 hbm2.size (by simp); clear hg3))
      have T3 : Text w3 wc.heap.size (n0 + 2 + n1) (n0 + n1 + 2) (byt (l0 ++ (13 :: 10 :: l1))) := text_of_own (l := l0 ++ (13 :: 10 :: l1)) (by simpa using hown3) (bytes_crlf I0.byte I1.byte) (by omega) (by simp; omega)
      have l3 : (l0 ++ (13 :: 10 :: l1)).length = n0 + 2 + n1 := by simp; omega
      have P3 : Prep wc.heap.size w3 (some ⟨wc.heap.size, 0, none⟩) (n0 + n1 + 2) (l0 ++ (13 :: 10 :: l1)) := .inr ⟨_, rfl, Nat.le_refl _, by rw [l3]; exact T3⟩
      obtain ⟨ma, mb, A, B, G, ea, eb, eg, fa, fb, fg, pa, pb, qa, qb, gA, gm, gB, bB⟩ := join_facts l0 l1 n0 n1 s0 s1 h0 h1
      have C3 := zzStarts_fn _ w3 _ _ _ _ P3 l3 _ eg G fg
      have HC0 : Hid (∀ W, Below wc.heap.size wc W → Calls Try.prog 9 #[.slice ao0 n0 d0] W fun e w' => ∃ g cap, e = .returned (.slice (some ⟨g, 0, none⟩) ma cap) ∧ IntsF w' g ma A ∧ Below W.heap.size W w') := fun W hW => zzStarts_fn _ W _ _ _ _ (HP0'.out.below hW) s0 _ ea A fa
      have HC1 : Hid (∀ W, Below wc.heap.size wc W → Calls Try.prog 9 #[.slice ao1 n1 d1] W fun e w' => ∃ g cap, e = .returned (.slice (some ⟨g, 0, none⟩) mb cap) ∧ IntsF w' g mb B ∧ Below W.heap.size W w') := fun W hW => zzStarts_fn _ W _ _ _ _ (HP1.out.below hW) s1 _ eb B fb
      have HB3 : Hid (Below wc.heap.size wc w3) := hbm3
      have HgA : Hid (∀ j, j < ma → G j = A j) := gA
      have HgB : Hid (∀ j, 1 ≤ j → j < mb → G (ma + j) = B j + ((n0 : Int) + 2)) := gB
      have Hgm : Hid (G ma = (n0 : Int) + 2) := gm
      clear hown hown1 hown2 hown3 T3 l3 P3 ea eb eg fa fb fg gA gB gm HP0' HP1 hbm hbm1 hbm2 hbm3 I0 I1 s0 s1 hb hz0 hz1 hz2 hi5
      refine C3.mono ?_
      clear C3
      rintro e w4 ⟨g3, k3, rfl, J3, b3⟩
      have HB4 : Hid (Below wc.heap.size wc w4) := HB3.out.trans (b3.mono HB3.out.size)
      have HJ3 : Hid (IntsF w4 g3 (ma + mb) G) := J3
      clear J3 b3
      go_wp2_with fail
      refine (HC0.out _ HB4.out).mono ?_
      rintro e w5 ⟨g4, k4, rfl, J4, b4⟩
      have HB5 : Hid (Below wc.heap.size wc w5) := HB4.out.trans (b4.mono HB4.out.size)
      have HJ3' : Hid (IntsF w5 g3 (ma + mb) G) := HJ3.out.below b4
      have HJ4 : Hid (IntsF w5 g4 ma A) := J4
      clear HJ3 J4 b4
      go_wp2_with fail
      refine (HC1.out _ HB5.out).mono ?_
      rintro e w6 ⟨g5, k5, rfl, J5, b5⟩
      have HB6 : Hid (Below w.heap.size w w6) := HB1.out.trans ((HB5.out.trans (b5.mono HB5.out.size)).mono hwc)
      have HJG : Hid (IntsF w6 g3 (ma + mb) G) := HJ3'.out.below b5
      have HJA : Hid (IntsF w6 g4 ma A) := HJ4.out.below b5
      have HJB : Hid (IntsF w6 g5 mb B) := J5
      clear HJ3' HJ4 J5 b5 HC0 HC1 HB5 HB4 HB3
      have za : ((ma : Int) == 0) = false := by simp; omega
      have zb : ((mb : Int) == 0) = false := by simp; omega
      go_wp2
      go_loopw [12] (fun i wr => ∃ k : Nat, k ≤ ma ∧ i = .int .i64 k ∧ Below w6.heap.size w6 wr) (fun i _ => ma - (intOf i).toNat)
      case atStart => exact ⟨0, Nat.zero_le _, rfl, Below.refl _ _⟩
      case round =>
        obtain ⟨k, hk, rfl, hnx⟩ := hrel
        have HX : Hid (Below w6.heap.size w6 wr) := hnx
        clear hnx
        by_cases hlt : k < ma
        · have c1 : wr.cell? ⟨g3, k, none⟩ = some (.int .i64 (A k)) := by rw [← HgA.out k hlt]; exact cell_later HX.out (HJG.out k (by omega))
          have c2 : wr.cell? ⟨g4, k, none⟩ = some (.int .i64 (A k)) := cell_later HX.out (HJA.out k hlt)
          have hi1 : (k : Int) < ((ma + mb : Nat) : Int) := by omega
          have hi2 : (k : Int) < (ma : Int) := by omega
          go_wp2
          go_quiet (fail)
          go_wp2
          go_roundw
          case rel => exact ⟨k + 1, by omega, by go_num, below_drew _ HX.out⟩
          case measure => simp [intOf]; omega
        · obtain rfl : k = ma := by omega
          have c1 : wr.cell? ⟨g3, k, none⟩ = some (.int .i64 ((n0 : Int) + 2)) := by rw [← Hgm.out]; exact cell_later HX.out (HJG.out k (by omega))
          obtain ⟨wq, hwq⟩ : ∃ wq, wq = wr := ⟨_, rfl⟩
          subst hwq
          go_wp2
          clear c1
          go_loopw [13] (fun i wr2 => ∃ j : Nat, 1 ≤ j ∧ j ≤ mb ∧ i = .int .i64 j ∧ Below wq.heap.size wq wr2) (fun i _ => mb - (intOf i).toNat)
          case atStart => exact ⟨1, Nat.le_refl _, pb, rfl, Below.refl _ _⟩
          case round =>
            obtain ⟨j, hj1, hj, rfl, hnx⟩ := hrel
            have HY : Hid (Below w6.heap.size w6 wr) := HX.out.trans (hnx.mono HX.out.size)
            have HY2 : Hid (Below wq.heap.size wq wr) := hnx
            clear hnx
            by_cases hlt : j < mb
            · have c1 : wr.cell? ⟨g3, k + j, none⟩ = some (.int .i64 (B j + ((n0 : Int) + 2))) := by rw [← HgB.out j hj1 hlt]; exact cell_later HY.out (HJG.out (k + j) (by omega))
              have c2 : wr.cell? ⟨g5, j, none⟩ = some (.int .i64 (B j)) := cell_later HY.out (HJB.out j hlt)
              have hi1 : (k : Int) + (j : Int) < ((k + mb : Nat) : Int) := by omega
              have hi2 : (j : Int) < (mb : Int) := by omega
              have hbj := bB j
              go_wp2
              go_quiet (fail)
              go_wp2
              go_roundw
              case rel => exact ⟨j + 1, by omega, by omega, by go_num, below_drew _ HY2.out⟩
              case measure => simp [intOf]; omega
            · go_wp2
              go_ret
              exact ⟨rfl, HB6.out.trans (HY.out.mono HB6.out.size)⟩

end Go.Proofs.Qxb6617877a
