/-
  The walk of 'FnLineStartsAgreesWithBreakAtEverywhere' (function 7).
-/
import Derived.Test.Qxb6617877aLook
namespace Go.Proofs.Qxb6617877a
open Go.RowKit Plain
set_option linter.unusedVariables false

theorem zz18 (a0 : Option Addr) (n0 c0 : Nat) (w : World) (h0 : n0 ≤ 1048576) :
    Calls Try.prog 18 #[.slice a0 n0 c0] w fun e w' => e = .returned (.bool true) ∧ w = w' := by
  go_enter Try.func18, Try.ntmps18
  go_wp2
  go_ret
  exact ⟨rfl, rfl⟩

theorem agree_big (a0 : Option Addr) (n0 c0 : Nat) (w : World) (h0 : n0 ≤ maxLen) (h : 1048576 < n0) :
    Calls Try.prog 7 #[.slice a0 n0 c0] w fun e w' => e = .returned (.bool true) ∧ Below w.heap.size w w' := by
  unfold maxLen at h0
  go_enter Try.func7, Try.ntmps7
  go_wp2
  all_goals (go_ret; exact ⟨rfl, Below.refl _ _⟩)

theorem zzBrk_at (g n c i : Nat) (f : Nat → Int) (w : World) (T : Text w g n c f) (hi : i < n) (I : Int) (hI : I = (i : Int)) (v : Nat) (hv : brk f i = v) :
    Calls Try.prog 15 #[.slice (some ⟨g, 0, none⟩) n c, .int .i64 I] w fun e w' => e = .returned (.int .i64 (v : Int)) ∧ Below w.heap.size w w' := by
  subst hI hv
  go_enter Try.func15, Try.ntmps15
  go_wp2_with fail
  refine (breakAt_any g n c i f w T hi).mono ?_
  rintro e w' ⟨rfl, h⟩
  go_wp2
  go_ret
  exact ⟨rfl, h⟩

/-- 'end' behind the rounds for the distances below d. -/
def endB (f : Nat → Int) (p d : Nat) : Bool :=
  decide ((1 < d ∧ 1 ≤ p ∧ brk f (p - 1) = 1) ∨ (2 < d ∧ 2 ≤ p ∧ brk f (p - 2) = 2) ∨ (3 < d ∧ 3 ≤ p ∧ brk f (p - 3) = 3))

theorem endB_one (f : Nat → Int) (p : Nat) : endB f p 1 = false := by unfold endB; simp
theorem endB_end (f : Nat → Int) (p d : Nat) (hp : 1 ≤ p) (hd : d = 4 ∨ (d = p + 1 ∧ d ≤ 4)) : endB f p d = ends f p := by
  rw [Bool.eq_iff_iff, ends_iff f p hp]
  unfold endB
  rw [decide_eq_true_iff]
  omega
theorem endB_hit (f : Nat → Int) (p d : Nat) (h1 : 1 ≤ d) (h3 : d ≤ 3) (hp : d ≤ p) (hb : brk f (p - d) = d) : endB f p (d + 1) = true := by
  unfold endB
  rw [decide_eq_true_iff]
  have : d = 1 ∨ d = 2 ∨ d = 3 := by omega
  rcases this with rfl | rfl | rfl <;> omega
theorem endB_miss (f : Nat → Int) (p d : Nat) (h1 : 1 ≤ d) (h3 : d ≤ 3) (hp : d ≤ p) (hb : brk f (p - d) ≠ d) : endB f p (d + 1) = endB f p d := by
  rw [Bool.eq_iff_iff]
  unfold endB
  rw [decide_eq_true_iff, decide_eq_true_iff]
  have : d = 1 ∨ d = 2 ∨ d = 3 := by omega
  rcases this with rfl | rfl | rfl <;> omega

set_option maxRecDepth 100000 in
set_option maxHeartbeats 2000000 in
theorem agree_main (a0 : Option Addr) (n0 c0 : Nat) (l0 : List Int) (w : World) (I0 : Inp w a0 n0 c0 l0) (h0 : n0 ≤ 1048576) :
    Calls Try.prog 7 #[.slice a0 n0 c0] w fun e w' => e = .returned (.bool true) ∧ Below w.heap.size w w' := by
  obtain ⟨i5, hi5, hz0, hz1, hz2⟩ := info_parts Try.info5
  have hnn := fun (w : World) (a : Option Addr) (n c n' c' : Nat) => run_neq_slice_nil_any (P := Try.prog) w 22 5 a n c n' c' Try.underlying22
  go_enter Try.func7, Try.ntmps7
  go_upto_if 16 with (go_at_call 18; refine (zz18 _ _ _ _ h0).mono ?_; rintro e w' ⟨rfl, rfl⟩)
  go_cut [0] (fun v wx => ∃ ao c, v = .slice ao n0 c ∧ Prep w.heap.size wx ao c l0 ∧ Below w.heap.size w wx)
  case first =>
    rcases I0.row with ⟨rfl, rfl, rfl⟩ | ⟨x, rfl, hcap, hcell⟩
    · go_wp2
      go_meet
      case rel => exact ⟨none, 0, rfl, .inl ⟨rfl, rfl, List.eq_nil_of_length_eq_zero I0.size⟩, Below.refl _ _⟩
    · have hb : i5.bytes * n0 ≤ 281474976710656 := by rw [hz2]; omega
      go_wp2_with (first
        | (at_make; refine wpList_make_full _ rfl _ _ 22 rfl w.heap.size 5 i5 (.int .u8 0) 1 Try.underlying22 hi5 hz0 hz1 .i64 .i64 _ _ n0 rfl rfl rfl rfl hb (by unfold maxLen; omega) (Nat.le_refl _) ?_; intro wm hown hgm; obtain ⟨cur, hrow, hcl, -⟩ := row_of_own hown; have hbm := below_of_grown hgm (by simp); clear hown hgm)
        | (refine wpList_copy_splice rfl (.tmp 20) (.tmp 21) 22 22 rfl 5 Try.underlying22 Try.size5 _ _ _ _ _ _ rfl rfl w.heap.size 0 cur 5 hrow (l0.map (Value.int .u8)) (by simp [I0.size]) (fun _ => ⟨rfl, x, rfl, fun j v hj => cell_later hbm (hcell j v hj)⟩) (by simp [I0.size, hcl]) (ints_oneCell _ _) w.heap.size w hbm (Nat.le_refl _) ?_; intro wc HG hbc))
      go_meet
      case rel => exact ⟨_, _, by rw [← I0.size], prep_of_copy (Nat.le_refl _) HG.out (by rw [hcl, I0.size]) (by rw [I0.size]; omega) I0.byte, hbc⟩
  case rest =>
    obtain ⟨ao, d, rfl, P, hb⟩ := hcut
    have s0 := I0.size
    obtain ⟨m, K, E, G, em, eG, m1, m2, g0, k1, kn, eE, kle, kyes, kno⟩ := look_facts l0 n0 s0 h0
    have HP : Hid (Prep w.heap.size wc ao d l0) := P
    have HB : Hid (Below w.heap.size w wc) := hb
    have HS : Hid (l0.length = n0) := s0
    have Hg0 : Hid (G 0 = first l0) := g0
    have Hkn : Hid (K (n0 + 1) = m) := kn
    have Hk1 : Hid (K 1 = 1) := k1
    have HE : Hid (∀ p, ends (byt l0) p = E p) := eE
    have Hyes : Hid (∀ p, 1 ≤ p → p ≤ n0 → E p = true → K (p + 1) = K p + 1 ∧ K p < m ∧ G (K p) = (p : Int)) := kyes
    have Hno : Hid (∀ p, 1 ≤ p → E p = false → K (p + 1) = K p) := kno
    have Hle : Hid (∀ p, 1 ≤ p → K p ≤ p) := kle
    have C := zzStarts_fn _ wc _ _ _ _ P s0 m em G eG
    clear P hb s0 g0 kn k1 eE kyes kno kle em eG I0 hi5 hz0 hz1 hz2 hnn
    go_wp2_with fail
    refine C.mono ?_
    clear C
    rintro e w1 ⟨g, cap, rfl, J, b1⟩
    have HB1 : Hid (Below w.heap.size w w1) := HB.out.trans (b1.mono HB.out.size)
    have HP1 : Hid (Prep w.heap.size w1 ao d l0) := HP.out.below b1
    have HJ : Hid (IntsF w1 g m G) := J
    clear J b1 HP HB
    have c0 : w1.cell? ⟨g, 0, none⟩ = some (.int .i64 (G 0)) := HJ.out 0 (by omega)
    have zm : ((m : Int) == 0) = false := by simp; omega
    have zi : 0 < m := by omega
    have CF : Hid (∀ q, Calls Try.prog 10 #[.slice ao n0 d] (w1.drewN q) fun e w' => e = .returned (.int .i64 (G 0)) ∧ w' = w1.drewN q) := fun q => first_prep _ (w1.drewN q) _ _ _ _ (HP1.out.below (below_drewB q (Below.refl _ _))) HS.out (G 0) Hg0.out.symm
    go_wp2
    go_quiet ((go_at_call 10; exact Calls.quiet_of_same (CF.out _)))
    clear CF
    go_wp2
    clear c0 zm zi
    go_loopw [5, 6] (fun k p wr => ∃ q : Nat, 1 ≤ q ∧ q ≤ n0 + 1 ∧ p = .int .i64 q ∧ k = .int .i64 (K q : Nat) ∧ Below w1.heap.size w1 wr) (fun _ p _ => n0 + 1 - (intOf p).toNat)
    case atStart => exact ⟨1, Nat.le_refl _, by omega, rfl, by rw [Hk1.out]; rfl, below_drewB _ (Below.refl _ _)⟩
    case round =>
      obtain ⟨q, hq1, hq2, rfl, rfl, hnx⟩ := hrel
      have HX : Hid (Below w1.heap.size w1 wr) := hnx
      clear hnx
      have hkl := Hle.out q hq1
      obtain ⟨wo, hwo⟩ : ∃ wo, wo = wr := ⟨_, rfl⟩
      subst hwo
      by_cases hq : q ≤ n0
      · obtain ⟨gd, had, HT⟩ : ∃ gd, ao = some ⟨gd, 0, none⟩ ∧ Hid (Text w1 gd n0 d (byt l0)) := by
          rcases HP1.out with ⟨_, _, h⟩ | ⟨gd, h, _, T⟩
          · have := HS.out; rw [h] at this; simp at this; omega
          · rw [HS.out] at T; exact ⟨gd, h, T⟩
        subst had
        go_wp2
        go_loopw [7, 8] (fun e dd wr => ∃ j : Nat, 1 ≤ j ∧ j ≤ 4 ∧ j ≤ q + 1 ∧ dd = .int .i64 j ∧ e = .bool (endB (byt l0) q j) ∧ Below w1.heap.size w1 wr) (fun _ dd _ => 4 - (intOf dd).toNat)
        case atStart => exact ⟨1, Nat.le_refl _, by omega, by omega, rfl, by rw [endB_one], HX.out⟩
        case round =>
          obtain ⟨j, hj1, hj4, hjq, rfl, rfl, hny⟩ := hrel
          have HY : Hid (Below w1.heap.size w1 wr) := hny
          clear hny
          have HTr : Hid (Text wr gd n0 d (byt l0)) := HT.out.below HY.out HT.out.lt
          by_cases hj : j ≤ 3 ∧ j ≤ q
          · obtain ⟨hj3, hjq'⟩ := hj
            by_cases hb : brk (byt l0) (q - j) = j
            · have HN : Hid (endB (byt l0) q (j + 1) = true) := endB_hit (byt l0) q j hj1 hj3 hjq' hb
              have HBk : Hid (brk (byt l0) (q - j) = j) := hb
              clear hb
              go_wp2_with (go_at_call 15; refine (zzBrk_at gd n0 d (q - j) (byt l0) _ HTr.out (by omega) _ (by omega) j HBk.out).mono ?_; rintro e w' ⟨rfl, h1⟩)
              go_roundw
              case rel => exact ⟨j + 1, by omega, by omega, by omega, by go_num, by rw [HN.out], HY.out.trans (h1.mono HY.out.size)⟩
              case measure => simp [intOf]; omega
            · have HN : Hid (endB (byt l0) q (j + 1) = endB (byt l0) q j) := endB_miss (byt l0) q j hj1 hj3 hjq' hb
              obtain ⟨v, hv⟩ : ∃ v, v = brk (byt l0) (q - j) := ⟨_, rfl⟩
              have HBk : Hid (brk (byt l0) (q - j) = v) := hv.symm
              have hne : ((v : Int) == (j : Int)) = false := by simp; omega
              clear hb hv
              go_wp2_with (go_at_call 15; refine (zzBrk_at gd n0 d (q - j) (byt l0) _ HTr.out (by omega) _ (by omega) v HBk.out).mono ?_; rintro e w' ⟨rfl, h1⟩)
              go_roundw
              case rel => exact ⟨j + 1, by omega, by omega, by omega, by go_num, by rw [HN.out], HY.out.trans (h1.mono HY.out.size)⟩
              case measure => simp [intOf]; omega
          · have hen : endB (byt l0) q j = E q := by rw [endB_end (byt l0) q j hq1 (by omega)]; exact HE.out q
            rw [hen]
            clear hen
            by_cases hE : E q = true
            · obtain ⟨hk, hlt, hG⟩ := Hyes.out q hq1 hq hE
              have HK : Hid (K (q + 1) = K q + 1) := hk
              have c1 : wr.cell? ⟨g, K q, none⟩ = some (.int .i64 (q : Int)) := by rw [← hG]; exact cell_later HY.out (HJ.out _ hlt)
              clear hk hG
              by_cases hj3 : j ≤ 3
              all_goals
                have hjj : ¬ (j ≤ 3 ∧ j ≤ q) := hj
                clear hj
                go_wp2
                go_roundw
                case rel => exact ⟨q + 1, by omega, by omega, by go_num, by rw [HK.out]; go_num, HY.out⟩
                case measure => simp [intOf]; omega
            · have hE' : E q = false := by simpa using hE
              have HK : Hid (K (q + 1) = K q) := Hno.out q hq1 hE'
              clear hE
              by_cases hj3 : j ≤ 3
              all_goals
                have hjj : ¬ (j ≤ 3 ∧ j ≤ q) := hj
                clear hj
                go_wp2
                go_roundw
                case rel => exact ⟨q + 1, by omega, by omega, by go_num, by rw [HK.out], HY.out⟩
                case measure => simp [intOf]; omega
      · obtain rfl : q = n0 + 1 := by omega
        have hKm := Hkn.out
        rw [hKm]
        go_wp2
        go_ret
        exact ⟨rfl, HB1.out.trans (HX.out.mono HB1.out.size)⟩

end Go.Proofs.Qxb6617877a
