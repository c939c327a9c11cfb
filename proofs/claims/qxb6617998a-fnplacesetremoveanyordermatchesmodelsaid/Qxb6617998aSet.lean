/-
  The walk of 'FnPlaceSetRemoveAnyOrderMatchesModel' (function 6).
-/
import Derived.Test.Qxb6617998aWell
namespace Go.Proofs.Qxb6617998a
open Go.RowKit Go.Deep Plain
set_option linter.unusedVariables false

/-! ### well formed: canonical -/
theorem wf_len {n : Nat} {len : Nat → Nat} {F : Nat → Nat → Nat} (h : WF n len F) : ∀ k, k < n → len k = cl (len 0) k := by
  intro k
  induction k with
  | zero => intro _; rfl
  | succ k ih =>
    intro hk
    rw [h.step (k + 1) (by omega) hk, Nat.add_sub_cancel, ih (by omega)]
    rfl
/-- Level 0, 0 beyond its end. -/
def base (len : Nat → Nat) (F : Nat → Nat → Nat) (j : Nat) : Nat := if j < len 0 then F 0 j else 0
theorem base_zero (len : Nat → Nat) (F : Nat → Nat → Nat) : ∀ i, len 0 ≤ i → base len F i = 0 := by
  intro i hi; unfold base; rw [if_neg (by omega)]
theorem base_lt (len : Nat → Nat) (F : Nat → Nat → Nat) (h : ∀ k j, F k j < 18446744073709551616) : ∀ i, base len F i < 18446744073709551616 := by
  intro i; unfold base; split
  · exact h 0 i
  · omega
theorem wf_word {n : Nat} {len : Nat → Nat} {F : Nat → Nat → Nat} (h : WF n len F) (h64 : ∀ k j, F k j < 18446744073709551616) : ∀ k, k < n → ∀ j, j < len k → lv (base len F) k j = F k j := by
  intro k
  induction k with
  | zero => intro _ j hj; show base len F j = _; unfold base; rw [if_pos hj]
  | succ k ih =>
    intro hk j hj
    apply Nat.eq_of_testBit_eq
    intro b
    show (upTo (lv (base len F) k) j 64).testBit b = _
    rw [testBit_upTo]
    by_cases hb : b < 64
    · have hbit := h.bit (k + 1) (by omega) hk (64 * j + b) (by omega)
      rw [show (64 * j + b) / 64 = j by omega, show (64 * j + b) % 64 = b by omega, Nat.add_sub_cancel] at hbit
      rw [hbit]
      by_cases hq : 64 * j + b < len k
      · rw [ih (by omega) _ hq]; simp [hb, hq]
      · rw [lv_zero (base len F) (len 0) (base_zero len F) k (64 * j + b) (by rw [← wf_len h k (by omega)]; omega)]
        simp [hq]
    · have : (F (k + 1) j).testBit b = false := Nat.testBit_lt_two_pow (Nat.lt_of_lt_of_le (h64 _ _) (by show 2 ^ 64 ≤ 2 ^ b; exact Nat.pow_le_pow_right (by omega) (by omega)))
      simp [hb, this]
theorem wf_tall {n : Nat} {len : Nat → Nat} {F : Nat → Nat → Nat} (h : WF n len F) (hn : 1 ≤ n) : Tall (len 0) n :=
  ⟨hn, by rw [← wf_len h (n - 1) (by omega)]; exact h.top, fun l hl => by rw [← wf_len h l (by omega)]; exact h.mid l hl⟩

theorem Own.relen {B : Nat} {w : World} {o n : Nat} {G len len' : Nat → Nat} {F F' : Nat → Nat → Nat} (h : Own B w o n G len F) (e : ∀ k, k < n → len' k = len k) (e2 : ∀ k, k < n → ∀ j, j < len k → F' k j = F k j) : Own B w o n G len' F' :=
  ⟨fun k hk => by rw [e k hk]; exact h.outer k hk, fun k hk => by rw [e k hk]; exact (h.rows k hk).congr (fun j hj => by rw [e2 k hk j hj]), h.inj, h.ne, h.lo⟩

/-- From canon's end to the set. -/
theorem Mid.own_set {W w : World} {L n : Nat} {f : Nat → Nat} {G : Nat → Nat} {v : Value} (h : Mid W w L n f G v) (hn : 1 ≤ n) : ∃ o cap, v = .slice (some ⟨o, 0, none⟩) n cap ∧ Own 0 w o n G (cl L) (lv f) := by
  have ho := h.own
  rcases h.own.2 with ⟨_, h2⟩ | ⟨o, cap, cur, rfl, _, _⟩
  · omega
  · refine ⟨o, cap, rfl, ⟨fun k hk => ?_, h.rows.row, h.rows.inj, fun k hk e => ?_, fun k hk => Nat.zero_le _⟩⟩
    · rw [ho.cellAt k (by omega)]
      simp [hk]
    · exact not_outer ho (h.rows.row k hk) (by simp [Value.ownBlock, e])

/-! ### no level at all -/
theorem zz_zero (a : Option Addr) (c : Nat) (i j : Int) (w : World) : Calls Try.prog 23 #[.slice a 0 c, .int .i64 i, .int .i64 j] w fun e w' => e = .returned (.bool true) ∧ w = w' := by
  go_enter Try.func23, Try.ntmps23
  go_wp2
  go_loop [8] (fun a8 => a8 = .int .i64 0) (fun _ => 0)
  case atStart => rfl
  case round =>
    subst hrel
    go_wp2
    go_ret
    exact ⟨rfl, rfl⟩
theorem fit_zero (a : Option Addr) (c : Nat) (w : World) : Calls Try.prog 9 #[.slice a 0 c] w fun e w' => e = .returned (.bool true) ∧ w = w' := by
  go_enter Try.func9, Try.ntmps9
  go_wp2
  go_loop [4] (fun a4 => a4 = .int .i64 0) (fun _ => 0)
  case atStart => rfl
  case round =>
    subst hrel
    go_wp2
    go_ret
    exact ⟨rfl, rfl⟩
theorem well_zero (a : Option Addr) (c : Nat) (w : World) : Calls Try.prog 10 #[.slice a 0 c] w fun e w' => e = .returned (.bool true) ∧ w = w' := by
  go_enter Try.func10, Try.ntmps10
  go_wp2
  go_ret
  exact ⟨rfl, rfl⟩

set_option maxRecDepth 100000 in
theorem set_zero (a : Option Addr) (c : Nat) (i j : Int) (w : World) : Calls Try.prog 6 #[.slice a 0 c, .int .i64 i, .int .i64 j] w fun e w' => e = .returned (.bool true) ∧ Below w.heap.size w w' := by
  by_cases hi : i < 0
  · go_enter Try.func6, Try.ntmps6
    go_wp2_with (first
      | (go_at_call 23; refine (zz_zero _ _ _ _ _).mono ?_; rintro e w' ⟨rfl, rfl⟩)
      | (go_at_call 9; refine (fit_zero _ _ _).mono ?_; rintro e w' ⟨rfl, rfl⟩))
    go_ret
    exact ⟨rfl, Below.refl _ _⟩
  · by_cases hj : j < 0
    · go_enter Try.func6, Try.ntmps6
      go_wp2_with (first
        | (go_at_call 23; refine (zz_zero _ _ _ _ _).mono ?_; rintro e w' ⟨rfl, rfl⟩)
        | (go_at_call 9; refine (fit_zero _ _ _).mono ?_; rintro e w' ⟨rfl, rfl⟩))
      go_ret
      exact ⟨rfl, Below.refl _ _⟩
    · obtain ⟨I, rfl⟩ := Int.eq_ofNat_of_zero_le (show 0 ≤ i by omega)
      by_cases he : ((I : Int) == j) = true
      · go_enter Try.func6, Try.ntmps6
        go_wp2_with (first
          | (go_at_call 23; refine (zz_zero _ _ _ _ _).mono ?_; rintro e w' ⟨rfl, rfl⟩)
          | (go_at_call 9; refine (fit_zero _ _ _).mono ?_; rintro e w' ⟨rfl, rfl⟩)
          | (go_at_call 10; refine (well_zero _ _ _).mono ?_; rintro e w' ⟨rfl, rfl⟩))
        go_ret
        exact ⟨rfl, Below.refl _ _⟩
      · have he' : ((I : Int) == j) = false := by simpa using he
        clear he
        go_enter Try.func6, Try.ntmps6
        go_wp2_with (first
          | (go_at_call 23; refine (zz_zero _ _ _ _ _).mono ?_; rintro e w' ⟨rfl, rfl⟩)
          | (go_at_call 9; refine (fit_zero _ _ _).mono ?_; rintro e w' ⟨rfl, rfl⟩)
          | (go_at_call 10; refine (well_zero _ _ _).mono ?_; rintro e w' ⟨rfl, rfl⟩)
          | (go_at_call 19; refine (has_none _ _ _ _).mono ?_; rintro e w' ⟨rfl, rfl⟩))
        go_ret
        exact ⟨rfl, Below.refl _ _⟩

/-! ### the law -/
set_option maxRecDepth 100000 in
set_option maxHeartbeats 4000000 in
theorem set_neg (bo oo n cap0 : Nat) (i j : Int) (A : Nat → Option Addr) (len cap Bk Ok : Nat → Nat) (F : Nat → Nat → Nat) (w : World) (hR : RL w bo oo n A len cap Bk Ok F) (hn2 : n ≤ maxLen) (hl : ∀ k, k < n → len k ≤ maxLen) (h : i < 0 ∨ j < 0) :
    Calls Try.prog 6 #[.slice (some ⟨bo, oo, none⟩) n cap0, .int .i64 i, .int .i64 j] w fun e w' => e = .returned (.bool true) ∧ Below w.heap.size w w' := by
  have C1 := zz_any bo oo n cap0 i j A len cap Bk Ok F w hR hn2 hl
  have C2 := fit_any bo oo n cap0 A len cap Bk Ok F w hR hn2 hl
  clear hR hn2 hl
  have hc : i < 0 ∨ (¬ i < 0 ∧ j < 0) := by omega
  clear h
  rcases hc with h | ⟨h, h'⟩
  all_goals
    go_enter Try.func6, Try.ntmps6
    go_wp2_with fail
    refine C1.mono ?_
    rintro e w' ⟨b1, rfl, rfl, -⟩
    cases b1
    · go_wp2
      go_ret
      exact ⟨rfl, Below.refl _ _⟩
    · go_wp2_with fail
      refine C2.mono ?_
      rintro e w' ⟨b2, rfl, rfl, -⟩
      cases b2
      · go_wp2
        go_ret
        exact ⟨rfl, Below.refl _ _⟩
      · go_wp2
        go_ret
        exact ⟨rfl, Below.refl _ _⟩

set_option maxRecDepth 100000 in
set_option maxHeartbeats 8000000 in
theorem set_main (bo oo n cap0 i j : Nat) (A : Nat → Option Addr) (len cap Bk Ok : Nat → Nat) (F : Nat → Nat → Nat) (w : World) (hR : RL w bo oo n A len cap Bk Ok F) (hn : 1 ≤ n) (hn2 : n ≤ maxLen) (hl : ∀ k, k < n → len k ≤ maxLen)
    (h64 : ∀ k j, F k j < 18446744073709551616) (hi : i ≤ 9223372036854775807) (hj : j ≤ 9223372036854775807) :
    Calls Try.prog 6 #[.slice (some ⟨bo, oo, none⟩) n cap0, .int .i64 i, .int .i64 j] w fun e w' => e = .returned (.bool true) ∧ Below w.heap.size w w' := by
  have C1 := zz_any bo oo n cap0 i j A len cap Bk Ok F w hR hn2 hl
  have C2 := fit_any bo oo n cap0 A len cap Bk Ok F w hR hn2 hl
  have HR : Hid (RL w bo oo n A len cap Bk Ok F) := hR
  have H64 : Hid (∀ k j, F k j < 18446744073709551616) := h64
  have ni : ¬ ((i : Int) < 0) := by omega
  have nj : ¬ ((j : Int) < 0) := by omega
  have hn0 : 0 < n := hn
  clear hR hl h64 hn2
  go_enter Try.func6, Try.ntmps6
  go_wp2_with fail
  refine C1.mono ?_
  rintro e w' ⟨b1, rfl, rfl, -⟩
  clear C1
  cases b1
  · go_wp2
    go_ret
    exact ⟨rfl, Below.refl _ _⟩
  go_wp2_with fail
  refine C2.mono ?_
  rintro e w' ⟨b2, rfl, rfl, hfit⟩
  clear C2
  cases b2
  · go_wp2
    go_ret
    exact ⟨rfl, Below.refl _ _⟩
  have HFit : Hid (Fit n len) := hfit rfl
  clear hfit
  go_wp2_with fail
  refine (well_any bo oo n cap0 A len cap Bk Ok F w HR.out HFit.out hn H64.out).mono ?_
  rintro e w1 ⟨b3, rfl, hb1, hwf⟩
  cases b3
  · go_wp2
    go_ret
    exact ⟨rfl, hb1⟩
  have HWF : Hid (WF n len F) := hwf rfl
  have HR1 : Hid (RL w1 bo oo n A len cap Bk Ok F) := HR.out.below hb1
  have HB1 : Hid (Below w.heap.size w w1) := hb1
  have hn3 : n ≤ 131072 := HFit.out.outer
  have hL0 : len 0 ≤ 131072 := HFit.out.inner 0 hn
  have hL1 : 1 ≤ len 0 := HWF.out.one 0 hn
  clear hwf hb1 HR
  by_cases hij : i = j
  · subst hij
    have he : ((i : Int) == (i : Int)) = true := by simp
    go_wp2
    go_ret
    exact ⟨rfl, HB1.out⟩
  have hne : ((i : Int) == (j : Int)) = false := by simp; omega
  go_wp2_with fail
  refine (has_any bo oo n cap0 i A len cap Bk Ok F w1 HR1.out hn (by omega) (by omega) hi).mono ?_
  rintro e w' ⟨b4, rfl, rfl, hhi⟩
  cases b4
  · go_wp2
    go_ret
    exact ⟨rfl, HB1.out⟩
  have hi64 := hhi rfl
  clear hhi
  go_wp2_with fail
  refine (has_any bo oo n cap0 j A len cap Bk Ok F w1 HR1.out hn (by omega) (by omega) hj).mono ?_
  rintro e w' ⟨b5, rfl, rfl, hhj⟩
  cases b5
  · go_wp2
    go_ret
    exact ⟨rfl, HB1.out⟩
  have hj64 := hhj rfl
  clear hhj
  -- the law's own copy
  obtain ⟨L, hL⟩ : ∃ L, L = len 0 := ⟨_, rfl⟩
  obtain ⟨f, hf⟩ : ∃ f, f = base len F := ⟨_, rfl⟩
  have HLen : Hid (∀ k, k < n → cl L k = len k) := by rw [hL]; exact fun k hk => (wf_len HWF.out k hk).symm
  have HWord : Hid (∀ k, k < n → ∀ x, x < len k → lv f k x = F k x) := by rw [hf]; exact wf_word HWF.out H64.out
  have HTall : Hid (Tall L n) := by rw [hL]; exact wf_tall HWF.out hn
  have HZ : Hid (∀ x, L ≤ x → f x = 0) := by rw [hL, hf]; exact base_zero len F
  have HF64 : Hid (∀ x, f x < 18446744073709551616) := by rw [hf]; exact base_lt len F H64.out
  have HL2 : Hid (∀ k, k < n → 1 ≤ len k ∧ len k ≤ 1000000) := fun k hk => ⟨HWF.out.one k hk, by have := HFit.out.inner k hk; omega⟩
  rw [← hL] at hL0 hL1 hi64 hj64
  clear hL hf HWF H64 HFit
  go_wp2_with fail
  refine (deep_any bo oo n cap0 A len cap Bk Ok F w1 HR1.out (by omega) HL2.out).mono ?_
  rintro e w2 ⟨G0, rfl, hO0, hb2⟩
  have hO0' : Own w1.heap.size w2 w1.heap.size n G0 (cl L) (lv f) := hO0.relen HLen.out HWord.out
  have HO0 : Hid (Own w1.heap.size w2 w1.heap.size n G0 (cl L) (lv f)) := hO0'
  have HB2 : Hid (Below w.heap.size w w2) := HB1.out.trans (hb2.mono HB1.out.size)
  have HL3 : Hid (∀ k, k < n → 1 ≤ cl L k ∧ cl L k ≤ 1000000) := fun k hk => by rw [HLen.out k hk]; exact HL2.out k hk
  have c0 := hO0'.outer 0 hn
  have e0 : cl L 0 = L := rfl
  rw [e0] at c0
  clear hO0 hb2 hO0' HR1 HB1 HLen HWord HL2 e0
  go_wp2_with fail
  refine (widened_any w1.heap.size w1.heap.size n n L G0 f w2 HO0.out hn (by omega)).mono ?_
  rintro e w3 ⟨g, rfl, hg, hr3, hb3⟩
  have HR3 : Hid (w3.rowIs g 34 L (fun x => .int .u64 (f x : Nat))) := hr3
  have HB3 : Hid (Below w2.heap.size w2 w3) := hb3
  clear hr3 hb3 c0
  go_wp2_with fail
  refine (clearBit_any g L i f w3 HR3.out hi64 (by omega) HF64.out).mono ?_
  rintro e w4 ⟨rfl, hr4, hg4⟩
  have HR4 : Hid (w4.rowIs g 34 L (fun x => .int .u64 (clr f i x : Nat))) := hr4
  have HB4 : Hid (Below w2.heap.size w2 w4) := HB3.out.grown hg4 HB3.out.size (fun k hk => by cases hk; exact hg)
  clear hr4 hg4 HR3 HB3
  go_wp2_with fail
  refine (clearBit_any g L j (clr f i) w4 HR4.out hj64 (by omega) (clr_lt f i HF64.out)).mono ?_
  rintro e w5 ⟨rfl, hr5, hg5⟩
  have HR5 : Hid (w5.rowIs g 34 L (fun x => .int .u64 (clr (clr f i) j x : Nat))) := hr5
  have HB5 : Hid (Below w2.heap.size w2 w5) := HB4.out.grown hg5 HB4.out.size (fun k hk => by cases hk; exact hg)
  clear hr5 hg5 HR4 HB4
  go_wp2_with fail
  refine (canon_any g L (clr (clr f i) j) w5 HR5.out hL1 (by omega) (clr_zero (clr f i) L j (clr_zero f L i HZ.out))).mono ?_
  rintro e w6 ⟨n', Gw, vw, rfl, hM, hn', htop, -⟩
  obtain ⟨ow, capw, hvw, hW⟩ := hM.own_set hn'
  have hnn : n' = n := (Tall.uniq ⟨hn', htop, hM.mid⟩ HTall.out)
  rw [hnn] at hvw hW
  rw [hvw]
  have HW6 : Hid (Own 0 w6 ow n Gw (cl L) (lv (clr (clr f i) j))) := hW
  have HB26 : Hid (Below w2.heap.size w2 w6) := HB5.out.trans (hM.below.mono HB5.out.size)
  have HB6 : Hid (Below w.heap.size w w6) := HB2.out.trans (HB26.out.mono HB2.out.size)
  have HO6 : Hid (Own w1.heap.size w6 w1.heap.size n G0 (cl L) (lv f)) := HO0.out.below HB26.out
  clear hM hvw hW hnn hn' htop HB26 HB5 HR5 HO0 HB2 hg
  go_wp2_with fail
  refine (deep_any w1.heap.size 0 n n _ (cl L) (cl L) G0 (fun _ => 0) (lv f) w6 HO6.out.rl (by omega) HL3.out).mono ?_
  rintro e w7 ⟨Ga, rfl, hOa, hb7⟩
  have HOa7 : Hid (Own w6.heap.size w7 w6.heap.size n Ga (cl L) (lv f)) := hOa
  have HB7 : Hid (Below w6.heap.size w6 w7) := hb7
  clear hOa hb7
  go_wp2_with fail
  refine (zzremove_any w6.heap.size w6.heap.size n n L i Ga f w7 HOa7.out HB7.out.size (by omega) (by omega) hi64 HF64.out).mono ?_
  rintro e w8 ⟨rfl, hOa8, hb8, hs8⟩
  have HOa8 : Hid (Own w6.heap.size w8 w6.heap.size n Ga (cl L) (lv (clr f i))) := hOa8
  have HB8 : Hid (Below w6.heap.size w6 w8) := HB7.out.trans hb8
  clear hOa8 hb8 hs8 HOa7 HB7
  go_wp2_with fail
  refine (zzremove_any w6.heap.size w6.heap.size n n L j Ga (clr f i) w8 HOa8.out HB8.out.size (by omega) (by omega) hj64 (clr_lt f i HF64.out)).mono ?_
  rintro e w9 ⟨rfl, hOa9, hb9, hs9⟩
  have HOa9 : Hid (Own w6.heap.size w9 w6.heap.size n Ga (cl L) (lv (clr (clr f i) j))) := hOa9
  have HB69 : Hid (Below w6.heap.size w6 w9) := HB8.out.trans hb9
  have HW9 : Hid (Own 0 w9 ow n Gw (cl L) (lv (clr (clr f i) j))) := HW6.out.below HB69.out
  have HO9 : Hid (Own w1.heap.size w9 w1.heap.size n G0 (cl L) (lv f)) := HO6.out.below HB69.out
  have HB9 : Hid (Below w.heap.size w w9) := HB6.out.trans (HB69.out.mono HB6.out.size)
  clear hOa9 hb9 hs9 HOa8 HB8 HB69 HW6 HO6 HB6
  go_wp2_with fail
  refine (deep_any w1.heap.size 0 n n _ (cl L) (cl L) G0 (fun _ => 0) (lv f) w9 HO9.out.rl (by omega) HL3.out).mono ?_
  rintro e w10 ⟨Gb, rfl, hOb, hb10⟩
  have HOb10 : Hid (Own w9.heap.size w10 w9.heap.size n Gb (cl L) (lv f)) := hOb
  have HB10 : Hid (Below w9.heap.size w9 w10) := hb10
  clear hOb hb10
  go_wp2_with fail
  refine (zzremove_any w9.heap.size w9.heap.size n n L j Gb f w10 HOb10.out HB10.out.size (by omega) (by omega) hj64 HF64.out).mono ?_
  rintro e w11 ⟨rfl, hOb11, hb11, hs11⟩
  have HOb11 : Hid (Own w9.heap.size w11 w9.heap.size n Gb (cl L) (lv (clr f j))) := hOb11
  have HB11 : Hid (Below w9.heap.size w9 w11) := HB10.out.trans hb11
  clear hOb11 hb11 hs11 HOb10 HB10
  go_wp2_with fail
  refine (zzremove_any w9.heap.size w9.heap.size n n L i Gb (clr f j) w11 HOb11.out HB11.out.size (by omega) (by omega) hi64 (clr_lt f j HF64.out)).mono ?_
  rintro e w12 ⟨rfl, hOb12, hb12, hs12⟩
  have HOb12 : Hid (Own w9.heap.size w12 w9.heap.size n Gb (cl L) (lv (clr (clr f i) j))) := hOb12.congr (fun k _ x _ => lv_congr _ _ (fun y => clr_comm f i j y) k x)
  have HB912 : Hid (Below w9.heap.size w9 w12) := HB11.out.trans hb12
  have HOa12 : Hid (Own w6.heap.size w12 w6.heap.size n Ga (cl L) (lv (clr (clr f i) j))) := HOa9.out.below HB912.out
  have HW12 : Hid (Own 0 w12 ow n Gw (cl L) (lv (clr (clr f i) j))) := HW9.out.below HB912.out
  have HB12 : Hid (Below w.heap.size w w12) := HB9.out.trans (HB912.out.mono HB9.out.size)
  clear hOb12 hb12 hs12 HOb11 HB11 HB912 HOa9 HW9 HO9 HB9
  have HL4 : Hid (∀ k, k < n → cl L k ≤ 1000000) := fun k hk => (HL3.out k hk).2
  go_wp2_with fail
  refine (same_any w6.heap.size 0 w6.heap.size ow n n capw Ga Gw (cl L) (lv (clr (clr f i) j)) w12 HOa12.out HW12.out (by omega) HL4.out).mono ?_
  rintro e w13 ⟨rfl, hb13⟩
  have HOb13 : Hid (Own w9.heap.size w13 w9.heap.size n Gb (cl L) (lv (clr (clr f i) j))) := HOb12.out.below hb13
  have HW13 : Hid (Own 0 w13 ow n Gw (cl L) (lv (clr (clr f i) j))) := HW12.out.below hb13
  have HB13 : Hid (Below w.heap.size w w13) := HB12.out.trans (hb13.mono HB12.out.size)
  clear hb13 HOb12 HW12 HB12 HOa12
  go_wp2_with fail
  refine (same_any w9.heap.size 0 w9.heap.size ow n n capw Gb Gw (cl L) (lv (clr (clr f i) j)) w13 HOb13.out HW13.out (by omega) HL4.out).mono ?_
  rintro e w14 ⟨rfl, hb14⟩
  have HB14 : Hid (Below w.heap.size w w14) := HB13.out.trans (hb14.mono HB13.out.size)
  clear hb14
  go_wp2
  go_ret
  exact ⟨rfl, HB14.out⟩

end Go.Proofs.Qxb6617998a
