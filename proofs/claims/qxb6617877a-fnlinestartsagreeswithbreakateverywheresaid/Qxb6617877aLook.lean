/-
  The walk of 'FnLineStartsLookBehind' (function 3).
-/
import Derived.Test.Qxb6617877aBehind
import Derived.Deep.QuietTactic
import Derived.BigQuiet
namespace Go.Proofs.Qxb6617877a
open Go.RowKit Plain
set_option linter.unusedVariables false

theorem zz8 (a0 : Option Addr) (n0 c0 : Nat) (w : World) (h0 : n0 ≤ 1048576) :
    Calls Try.prog 8 #[.slice a0 n0 c0] w fun e w' => e = .returned (.bool true) ∧ w = w' := by
  go_enter Try.func8, Try.ntmps8
  go_wp2
  go_ret
  exact ⟨rfl, rfl⟩

theorem look_big (a0 : Option Addr) (n0 c0 : Nat) (w : World) (h0 : n0 ≤ maxLen) (h : 1048576 < n0) :
    Calls Try.prog 3 #[.slice a0 n0 c0] w fun e w' => e = .returned (.bool true) ∧ Below w.heap.size w w' := by
  unfold maxLen at h0
  go_enter Try.func3, Try.ntmps3
  go_wp2
  all_goals (go_ret; exact ⟨rfl, Below.refl _ _⟩)

theorem below_drewB {B : Nat} {a w : World} (q : Nat) (h : Below B a w) : Below B a (w.drewN q) := ⟨h.os, h.tape, h.output, h.size, h.block⟩

/-- The plain facts of the looking loop, told by functions of the place. -/
theorem look_facts (l : List Int) (n : Nat) (hn : l.length = n) (hs : n ≤ 1048576) :
    ∃ (m : Nat) (K : Nat → Nat) (E : Nat → Bool) (G : Nat → Int), (starts l n).length = m ∧ (∀ j, (starts l n).getD j 0 = G j) ∧ 1 ≤ m ∧ m ≤ 2000000 ∧ G 0 = first l ∧ K 1 = 1 ∧ K (n + 1) = m ∧ (∀ p, ends (byt l) p = E p) ∧
      (∀ p, 1 ≤ p → K p ≤ p) ∧ (∀ p, 1 ≤ p → p ≤ n → E p = true → K (p + 1) = K p + 1 ∧ K p < m ∧ G (K p) = (p : Int)) ∧ (∀ p, 1 ≤ p → E p = false → K (p + 1) = K p) := by
  refine ⟨_, cnt (byt l), ends (byt l), fun j => (starts l n).getD j 0, rfl, fun _ => rfl, starts_pos _ _, ?_, by simp [starts], cnt_one _, (cnt_end l n).symm, fun _ => rfl, fun p hp => cnt_le _ p hp, ?_, fun p hp h => cnt_no _ p hp h⟩
  · have := starts_length l n; omega
  · intro p hp hpn h
    exact ⟨cnt_yes _ p hp h, cnt_at l n p hp hpn h⟩

set_option maxRecDepth 100000 in
set_option maxHeartbeats 2000000 in
theorem look_main (a0 : Option Addr) (n0 c0 : Nat) (l0 : List Int) (w : World) (I0 : Inp w a0 n0 c0 l0) (h0 : n0 ≤ 1048576) :
    Calls Try.prog 3 #[.slice a0 n0 c0] w fun e w' => e = .returned (.bool true) ∧ Below w.heap.size w w' := by
  obtain ⟨i5, hi5, hz0, hz1, hz2⟩ := info_parts Try.info5
  have hnn := fun (w : World) (a : Option Addr) (n c n' c' : Nat) => run_neq_slice_nil_any (P := Try.prog) w 22 5 a n c n' c' Try.underlying22
  go_enter Try.func3, Try.ntmps3
  go_upto_if 14 with (go_at_call 8; refine (zz8 _ _ _ _ h0).mono ?_; rintro e w' ⟨rfl, rfl⟩)
  go_cut [0] (fun v wx => ∃ ao c, v = .slice ao n0 c ∧ Prep w.heap.size wx ao c l0 ∧ Below w.heap.size w wx)
  case first =>
    rcases I0.row with ⟨rfl, rfl, rfl⟩ | ⟨x, rfl, hcap, hcell⟩
    · go_wp2
      go_meet
      case rel => exact ⟨none, 0, rfl, .inl ⟨rfl, rfl, List.eq_nil_of_length_eq_zero I0.size⟩, Below.refl _ _⟩
    · have hb : i5.bytes * n0 ≤ 281474976710656 := by rw [hz2]; omega
      go_wp2_with (first
        | (at_make; refine wpList_make_full _ rfl _ _ 22 rfl w.heap.size 5 i5 (.int .u8 0) 1 Try.underlying22 hi5 hz0 hz1 .i64 .i64 _ _ n0 rfl rfl rfl rfl hb (by unfold maxLen; omega) (Nat.le_refl _) ?_; intro wm hown hgm; obtain ⟨cur, hrow, hcl, -⟩ := row_of_own hown; have hbm := below_of_grown hgm (by simp); clear hown hgm)
        | (refine wpList_copy_splice rfl (.tmp 18) (.tmp 19) 22 22 rfl 5 Try.underlying22 Try.size5 _ _ _ _ _ _ rfl rfl w.heap.size 0 cur 5 hrow (l0.map (Value.int .u8)) (by simp [I0.size]) (fun _ => ⟨rfl, x, rfl, fun j v hj => cell_later hbm (hcell j v hj)⟩) (by simp [I0.size, hcl]) (ints_oneCell _ _) w.heap.size w hbm (Nat.le_refl _) ?_; intro wc HG hbc))
      go_meet
      case rel => exact ⟨_, _, by rw [← I0.size], prep_of_copy (Nat.le_refl _) HG.out (by rw [hcl, I0.size]) (by rw [I0.size]; omega) I0.byte, hbc⟩
  case rest =>
    obtain ⟨ao, d, rfl, P, hb⟩ := hcut
    have s0 := I0.size
    obtain ⟨m, K, E, G, em, eG, m1, m2, g0, k1, kn, eE, kle, kyes, kno⟩ := look_facts l0 n0 s0 h0
    have HP : Hid (Prep w.heap.size wc ao d l0) := P
    have HB : Hid (Below w.heap.size w wc) := hb
    have HS : Hid (l0.length = n0) := s0
    have Hg0 : Hid (G 0 = first l0) := g0
    have Hkn : Hid (K (n0 + 1) = m) := kn
    have Hk1 : Hid (K 1 = 1) := k1
    have HE : Hid (∀ p, ends (byt l0) p = E p) := eE
    have Hyes : Hid (∀ p, 1 ≤ p → p ≤ n0 → E p = true → K (p + 1) = K p + 1 ∧ K p < m ∧ G (K p) = (p : Int)) := kyes
    have Hno : Hid (∀ p, 1 ≤ p → E p = false → K (p + 1) = K p) := kno
    have Hle : Hid (∀ p, 1 ≤ p → K p ≤ p) := kle
    have C := zzStarts_fn _ wc _ _ _ _ P s0 m em G eG
    clear P hb s0 g0 kn k1 eE kyes kno kle em eG I0 hi5 hz0 hz1 hz2 hnn
    go_wp2_with fail
    refine C.mono ?_
    clear C
    rintro e w1 ⟨g, cap, rfl, J, b1⟩
    have HB1 : Hid (Below w.heap.size w w1) := HB.out.trans (b1.mono HB.out.size)
    have HP1 : Hid (Prep w.heap.size w1 ao d l0) := HP.out.below b1
    have HJ : Hid (IntsF w1 g m G) := J
    clear J b1 HP HB
    have c0 : w1.cell? ⟨g, 0, none⟩ = some (.int .i64 (G 0)) := HJ.out 0 (by omega)
    have zm : ((m : Int) == 0) = false := by simp; omega
    have zi : 0 < m := by omega
    have CF : Hid (∀ q, Calls Try.prog 10 #[.slice ao n0 d] (w1.drewN q) fun e w' => e = .returned (.int .i64 (G 0)) ∧ w' = w1.drewN q) := fun q => first_prep _ (w1.drewN q) _ _ _ _ (HP1.out.below (below_drewB q (Below.refl _ _))) HS.out (G 0) Hg0.out.symm
    go_wp2
    go_quiet ((go_at_call 10; exact Calls.quiet_of_same (CF.out _)))
    clear CF
    go_wp2
    clear c0 zm zi
    go_loopw [5, 6] (fun k p wr => ∃ q : Nat, 1 ≤ q ∧ q ≤ n0 + 1 ∧ p = .int .i64 q ∧ k = .int .i64 (K q : Nat) ∧ Below w1.heap.size w1 wr) (fun _ p _ => n0 + 1 - (intOf p).toNat)
    case atStart => exact ⟨1, Nat.le_refl _, by omega, rfl, by rw [Hk1.out]; rfl, below_drewB _ (Below.refl _ _)⟩
    case round =>
      obtain ⟨q, hq1, hq2, rfl, rfl, hnx⟩ := hrel
      have HX : Hid (Below w1.heap.size w1 wr) := hnx
      clear hnx
      have hkl := Hle.out q hq1
      by_cases hq : q ≤ n0
      · obtain ⟨gd, had, HT⟩ : ∃ gd, ao = some ⟨gd, 0, none⟩ ∧ Hid (Text wr gd n0 d (byt l0)) := by
          rcases HP1.out with ⟨_, _, h⟩ | ⟨gd, h, _, T⟩
          · have := HS.out; rw [h] at this; simp at this; omega
          · rw [HS.out] at T; exact ⟨gd, h, T.below HX.out T.lt⟩
        subst had
        have CE : Hid (Calls Try.prog 11 #[.slice (some ⟨gd, 0, none⟩) n0 d, .int .i64 q] wr fun e w' => e = .returned (.bool (E q)) ∧ wr = w') := by
          show Calls _ _ _ _ _
          rw [← HE.out q]; exact ends_any gd n0 d q (byt l0) wr HT.out hq1 hq
        by_cases hE : E q = true
        · obtain ⟨hk, hlt, hG⟩ := Hyes.out q hq1 hq hE
          have HK : Hid (K (q + 1) = K q + 1) := hk
          have c1 : wr.cell? ⟨g, K q, none⟩ = some (.int .i64 (q : Int)) := by rw [← hG]; exact cell_later HX.out (HJ.out _ hlt)
          clear hk hG
          go_wp2_with (go_at_call 11; refine CE.out.mono ?_; rintro e w' ⟨rfl, rfl⟩)
          go_roundw
          case rel => exact ⟨q + 1, by omega, by omega, by go_num, by rw [HK.out]; go_num, HX.out⟩
          case measure => simp [intOf]; omega
        · have hE' : E q = false := by simpa using hE
          have HK : Hid (K (q + 1) = K q) := Hno.out q hq1 hE'
          clear hE
          go_wp2_with (go_at_call 11; refine CE.out.mono ?_; rintro e w' ⟨rfl, rfl⟩)
          go_roundw
          case rel => exact ⟨q + 1, by omega, by omega, by go_num, by rw [HK.out], HX.out⟩
          case measure => simp [intOf]; omega
      · obtain rfl : q = n0 + 1 := by omega
        have hKm := Hkn.out
        rw [hKm]
        go_wp2
        go_ret
        exact ⟨rfl, HB1.out.trans (HX.out.mono HB1.out.size)⟩

end Go.Proofs.Qxb6617877a
