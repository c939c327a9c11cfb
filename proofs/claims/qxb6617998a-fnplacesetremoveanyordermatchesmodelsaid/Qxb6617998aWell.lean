/-
  wellFormed (function 10): where it says yes, the levels are the canonical ones of level 0.
-/
import Derived.Test.Qxb6617998aHas
import Derived.Test.Qxb6617998aSame
namespace Go.Proofs.Qxb6617998a
open Go.RowKit Go.Deep Plain
set_option linter.unusedVariables false

/-- It answers a bool and turns nothing old; where it says yes, P. -/
def AnsB (P : Prop) (w : World) (e : Ending) (w' : World) : Prop := ∃ b, e = .returned (.bool b) ∧ Below w.heap.size w w' ∧ (b = true → P)
theorem AnsB.mk {P : Prop} {w w' : World} {e : Ending} (b : Bool) (he : e = .returned (.bool b)) (hw : Below w.heap.size w w') (h : b = true → P) : AnsB P w e w' := ⟨b, he, hw, h⟩

structure WF (n : Nat) (len : Nat → Nat) (F : Nat → Nat → Nat) : Prop where
  one : ∀ k, k < n → 1 ≤ len k
  mid : ∀ k, k < n - 1 → len k ≠ 1
  step : ∀ k, 1 ≤ k → k < n → len k = (len (k - 1) + 63) / 64
  top : len (n - 1) = 1
  bit : ∀ k, 1 ≤ k → k < n → ∀ q, q < len k * 64 → (F k (q / 64)).testBit (q % 64) = decide (q < len (k - 1) ∧ F (k - 1) q ≠ 0)

theorem bit_eq (x b : Nat) (hx : x < 18446744073709551616) : (bits .and .u64 ((x : Int) / (2 : Int) ^ b) 1 == 1) = x.testBit b := by
  have e : ((x : Int) / (2 : Int) ^ b) = ((x / 2 ^ b : Nat) : Int) := by
    rw [Int.natCast_ediv]; simp
  have h1 : x / 2 ^ b < 18446744073709551616 := Nat.lt_of_le_of_lt (Nat.div_le_self _ _) hx
  rw [e]
  have h2 := u64_and_nat (x / 2 ^ b) 1 h1 (by omega)
  have h3 : ((1 : Nat) : Int) = 1 := rfl
  rw [h3] at h2
  rw [h2, nat_mask1, Nat.testBit_eq_decide_div_mod_eq]
  rw [Bool.eq_iff_iff]
  simp
  omega

set_option maxHeartbeats 4000000 in
set_option maxRecDepth 100000 in
theorem well_any (bo oo n cap0 : Nat) (A : Nat → Option Addr) (len cap Bk Ok : Nat → Nat) (F : Nat → Nat → Nat) (w : World) (hR : RL w bo oo n A len cap Bk Ok F) (hF : Fit n len) (hn : 1 ≤ n) (hw64 : ∀ k j, F k j < 18446744073709551616) :
    Calls Try.prog 10 #[.slice (some ⟨bo, oo, none⟩) n cap0] w fun e w' => AnsB (WF n len F) w e w' := by
  have HR : Hid (RL w bo oo n A len cap Bk Ok F) := hR
  have HF : Hid (Fit n len) := hF
  have H64 : Hid (∀ k j, F k j < 18446744073709551616) := hw64
  have hn2 := hF.outer
  have hnz : ((n : Int) == 0) = false := by simp; omega
  clear hR hF hw64
  go_enter Try.func10, Try.ntmps10
  go_wp2
  go_loopw [4] (fun a4 wr => ∃ k : Nat, k ≤ n ∧ a4 = .int .i64 k ∧ Hid (∀ l, l < k → 1 ≤ len l ∧ (l < n - 1 → len l ≠ 1) ∧ (1 ≤ l → len l = (len (l - 1) + 63) / 64)) ∧ Below w.heap.size w wr) (fun a4 _ => n - (intOf a4).toNat)
  case atStart => exact ⟨0, Nat.zero_le _, rfl, fun l hl => by omega, Below.refl _ _⟩
  case round =>
    obtain ⟨k, hk, rfl, hall, hbe⟩ := hrel
    have HB : Hid (Below w.heap.size w wr) := hbe
    clear hbe
    by_cases hlt : k < n
    · obtain ⟨m, hm⟩ : ∃ m, m = len k := ⟨_, rfl⟩
      have hm2 : m ≤ 131072 := by rw [hm]; exact HF.out.inner k hlt
      have HM : Hid (m = len k) := hm
      have c1 := cell_later HB.out (HR.out.outer k hlt)
      rw [← hm] at c1
      clear hm
      by_cases hm0 : m = 0
      · subst hm0
        go_wp2
        go_ret
        exact AnsB.mk false rfl HB.out (fun h => by cases h)
      · have zm : ((m : Int) == 0) = false := by simp; omega
        by_cases hbad : k < n - 1 ∧ m = 1
        · obtain ⟨hb1, rfl⟩ := hbad
          go_wp2
          go_ret
          exact AnsB.mk false rfl HB.out (fun h => by cases h)
        · have HBad : Hid (¬ (k < n - 1 ∧ m = 1)) := hbad
          clear hbad
          have hgood : (k < n - 1 ∧ ((m : Int) == 1) = false) ∨ ¬ ((k : Int) < (n : Int) - 1) := by
            by_cases h : k < n - 1
            · left; refine ⟨h, ?_⟩; have := HBad.out; simp; omega
            · right; omega
          have HS : Hid ((1 ≤ k → m = (len (k - 1) + 63) / 64) → ∀ l, l < k + 1 → 1 ≤ len l ∧ (l < n - 1 → len l ≠ 1) ∧ (1 ≤ l → len l = (len (l - 1) + 63) / 64)) := by
            intro hst l hl
            by_cases e : l = k
            · subst e
              have h1 := HBad.out
              have h2 := HM.out
              exact ⟨by omega, fun h => by omega, fun h => by rw [← h2]; exact hst h⟩
            · exact hall.out l (by omega)
          by_cases hk0 : k = 0
          · subst hk0
            rw [Nat.add_zero] at c1
            rcases hgood with ⟨hg1, hg2⟩ | hg1
            all_goals
              go_wp2
              go_quiet (fail)
              go_wp2
              go_roundw
              case rel => exact ⟨0 + 1, by omega, by go_num, HS.out (fun h => by omega), below_drewB _ HB.out⟩
              case measure => simp [intOf]; omega
          · obtain ⟨m', hm'⟩ : ∃ m', m' = len (k - 1) := ⟨_, rfl⟩
            have hm3 : m' ≤ 131072 := by rw [hm']; exact HF.out.inner (k - 1) (by omega)
            have c2 := cell_later HB.out (HR.out.outer (k - 1) (by omega))
            rw [← hm'] at c2
            have HM' : Hid (m' = len (k - 1)) := hm'
            have hkp : (0 : Int) < (k : Int) := by omega
            have hkp' : 0 < k := by omega
            clear hm'
            by_cases he : m = (m' + 63) / 64
            · have heb : ((m : Int) != ((m' : Int) + 63) / 64) = false := by simp; omega
              have HE : Hid (m = (m' + 63) / 64) := he
              clear he
              rcases hgood with ⟨hg1, hg2⟩ | hg1
              all_goals
                go_wp2
                go_quiet (fail)
                go_wp2
                go_roundw
                case rel => exact ⟨k + 1, by omega, by go_num, HS.out (fun h => by rw [← HM'.out]; exact HE.out), below_drewB _ HB.out⟩
                case measure => simp [intOf]; omega
            · have heb : ((m : Int) != ((m' : Int) + 63) / 64) = true := by simp; omega
              clear he
              rcases hgood with ⟨hg1, hg2⟩ | hg1
              all_goals
                go_wp2
                go_quiet (fail)
                go_wp2
                go_ret
                exact AnsB.mk false rfl (below_drewB _ HB.out) (fun h => by cases h)
    · obtain rfl : k = n := by omega
      obtain ⟨t, ht⟩ : ∃ t, t = len (k - 1) := ⟨_, rfl⟩
      have ct := cell_later HB.out (HR.out.outer (k - 1) (by omega))
      rw [← ht] at ct
      have HT : Hid (t = len (k - 1)) := ht
      have ht2 : t ≤ 131072 := by rw [ht]; exact HF.out.inner (k - 1) (by omega)
      clear ht
      obtain ⟨wo, hwo⟩ : ∃ wo, wo = wr := ⟨_, rfl⟩
      subst hwo
      by_cases ht1 : t = 1
      · subst ht1
        go_wp2
        clear ct
        go_loop [5] (fun a5 => ∃ x : Nat, 1 ≤ x ∧ x ≤ k ∧ a5 = .int .i64 x ∧ Hid (∀ l, 1 ≤ l → l < x → ∀ q, q < len l * 64 → (F l (q / 64)).testBit (q % 64) = decide (q < len (l - 1) ∧ F (l - 1) q ≠ 0))) (fun a5 => k - (intOf a5).toNat)
        case atStart => exact ⟨1, Nat.le_refl _, hn, rfl, fun l h1 h2 => by omega⟩
        case round =>
          obtain ⟨x, hx1, hx, rfl, hbits⟩ := hrel
          by_cases hxk : x < k
          · have hone := hall.out x hxk
            have hone' := hall.out (x - 1) (by omega)
            obtain ⟨m, hm⟩ : ∃ m, m = len x := ⟨_, rfl⟩
            obtain ⟨m', hm'⟩ : ∃ m', m' = len (x - 1) := ⟨_, rfl⟩
            have c1 := cell_later HB.out (HR.out.outer x hxk)
            have c2 := cell_later HB.out (HR.out.outer (x - 1) (by omega))
            rw [HR.out.addr x hxk (by omega), ← hm] at c1
            rw [HR.out.addr (x - 1) (by omega) (by omega), ← hm'] at c2
            have hm2 : m ≤ 131072 := by rw [hm]; exact HF.out.inner x hxk
            have hm3 : m' ≤ 131072 := by rw [hm']; exact HF.out.inner (x - 1) (by omega)
            have HM : Hid (m = len x) := hm
            have HM' : Hid (m' = len (x - 1)) := hm'
            clear hone hone' hm hm'
            go_wp2
            clear c1 c2
            go_loop [8] (fun a8 => ∃ q : Nat, q ≤ m * 64 ∧ a8 = .int .i64 q ∧ Hid (∀ y, y < q → (F x (y / 64)).testBit (y % 64) = decide (y < len (x - 1) ∧ F (x - 1) y ≠ 0))) (fun a8 => m * 64 - (intOf a8).toNat)
            case atStart => exact ⟨0, Nat.zero_le _, rfl, fun y hy => by omega⟩
            case round =>
              obtain ⟨q, hq, rfl, hdone⟩ := hrel
              by_cases hqm : q < m * 64
              · obtain ⟨u, hu⟩ : ∃ u, u = F x (q / 64) := ⟨_, rfl⟩
                have d1 := cell_later HB.out (HR.out.inner x hxk (q / 64) (by rw [← HM.out]; omega))
                rw [← hu] at d1
                have hbe := bit_eq u (q % 64) (by rw [hu]; exact H64.out _ _)
                obtain ⟨bv, hbv⟩ : ∃ bv, bv = u.testBit (q % 64) := ⟨_, rfl⟩
                rw [← hbv] at hbe
                have HBV : Hid (bv = (F x (q / 64)).testBit (q % 64)) := by show bv = _; rw [hbv, hu]
                clear hu hbv
                by_cases hqb : q < m'
                · obtain ⟨y, hy⟩ : ∃ y, y = F (x - 1) q := ⟨_, rfl⟩
                  have d2 := cell_later HB.out (HR.out.inner (x - 1) (by omega) q (by rw [← HM'.out]; exact hqb))
                  rw [← hy] at d2
                  have HY : Hid (y = F (x - 1) q) := hy
                  clear hy
                  by_cases hy0 : y = 0
                  · subst hy0
                    have hw : decide (q < len (x - 1) ∧ F (x - 1) q ≠ 0) = false := by rw [← HY.out]; simp
                    have HW : Hid (decide (q < len (x - 1) ∧ F (x - 1) q ≠ 0) = false) := hw
                    clear hw
                    cases bv
                    · go_wp2
                      go_round
                      case rel => exact ⟨q + 1, by omega, by go_num, fun z hz => by
                        by_cases e : z = q
                        · subst e; rw [HW.out, ← HBV.out]
                        · exact hdone.out z (by omega)⟩
                      case measure => simp [intOf]; omega
                    · go_wp2
                      go_ret
                      exact AnsB.mk false rfl HB.out (fun h => by cases h)
                  · have hyb : ((y : Int) != 0) = true := by simp; omega
                    have hw : decide (q < len (x - 1) ∧ F (x - 1) q ≠ 0) = true := by rw [← HY.out, ← HM'.out]; simp; omega
                    have HW : Hid (decide (q < len (x - 1) ∧ F (x - 1) q ≠ 0) = true) := hw
                    clear hw
                    cases bv
                    · go_wp2
                      go_ret
                      exact AnsB.mk false rfl HB.out (fun h => by cases h)
                    · go_wp2
                      go_round
                      case rel => exact ⟨q + 1, by omega, by go_num, fun z hz => by
                        by_cases e : z = q
                        · subst e; rw [HW.out, ← HBV.out]
                        · exact hdone.out z (by omega)⟩
                      case measure => simp [intOf]; omega
                · have hw : decide (q < len (x - 1) ∧ F (x - 1) q ≠ 0) = false := by rw [← HM'.out]; simp; omega
                  have HW : Hid (decide (q < len (x - 1) ∧ F (x - 1) q ≠ 0) = false) := hw
                  clear hw
                  cases bv
                  · go_wp2
                    go_round
                    case rel => exact ⟨q + 1, by omega, by go_num, fun z hz => by
                      by_cases e : z = q
                      · subst e; rw [HW.out, ← HBV.out]
                      · exact hdone.out z (by omega)⟩
                    case measure => simp [intOf]; omega
                  · go_wp2
                    go_ret
                    exact AnsB.mk false rfl HB.out (fun h => by cases h)
              · go_wp2
                go_round
                case rel => exact ⟨x + 1, by omega, by omega, by go_num, fun l h1 h2 q' hq' => by
                  by_cases e : l = x
                  · subst e; exact hdone.out q' (by rw [← HM.out] at hq'; omega)
                  · exact hbits.out l h1 (by omega) q' hq'⟩
                case measure => simp [intOf]; omega
          · obtain rfl : x = k := by omega
            go_wp2
            go_ret
            exact AnsB.mk true rfl HB.out (fun _ => ⟨fun l hl => (hall.out l hl).1, fun l hl => (hall.out l (by omega)).2.1 hl, fun l h1 h2 => (hall.out l h2).2.2 h1, HT.out.symm, fun l h1 h2 => hbits.out l h1 h2⟩)
      · have htb : ((t : Int) != 1) = true := by simp; omega
        go_wp2
        go_ret
        exact AnsB.mk false rfl HB.out (fun h => by cases h)

end Go.Proofs.Qxb6617998a
