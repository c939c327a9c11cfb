/-
  sameLevels (function 17).
-/
import Derived.Test.Qxb6617998aDeep
namespace Go.Proofs.Qxb6617998a
open Go.RowKit Go.Deep Plain
set_option linter.unusedVariables false

theorem below_drewB {B : Nat} {a w : World} (q : Nat) (h : Below B a w) : Below B a (w.drewN q) := ⟨h.os, h.tape, h.output, h.size, h.block⟩

set_option maxHeartbeats 2000000 in
set_option maxRecDepth 100000 in
theorem same_any (B1 B2 o1 o2 n c1 c2 : Nat) (G1 G2 len : Nat → Nat) (F : Nat → Nat → Nat) (w : World) (h1 : Own B1 w o1 n G1 len F) (h2 : Own B2 w o2 n G2 len F) (hn : n ≤ 1000000) (hlen : ∀ k, k < n → len k ≤ 1000000) :
    Calls Try.prog 17 #[.slice (some ⟨o1, 0, none⟩) n c1, .slice (some ⟨o2, 0, none⟩) n c2] w fun e w' => e = .returned (.bool true) ∧ Below w.heap.size w w' := by
  have H1 : Hid (Own B1 w o1 n G1 len F) := h1
  have H2 : Hid (Own B2 w o2 n G2 len F) := h2
  have HL : Hid (∀ k, k < n → len k ≤ 1000000) := hlen
  clear h1 h2 hlen
  go_enter Try.func17, Try.ntmps17
  go_wp2
  go_loopw [5] (fun a5 wr => ∃ k : Nat, k ≤ n ∧ a5 = .int .i64 k ∧ Below w.heap.size w wr) (fun a5 _ => n - (intOf a5).toNat)
  case atStart => exact ⟨0, Nat.zero_le _, rfl, Below.refl _ _⟩
  case round =>
    obtain ⟨k, hk, rfl, hbe⟩ := hrel
    have HB : Hid (Below w.heap.size w wr) := hbe
    clear hbe
    obtain ⟨wo, hwo⟩ : ∃ wo, wo = wr := ⟨_, rfl⟩
    subst hwo
    by_cases hlt : k < n
    · obtain ⟨m, hm⟩ : ∃ m, m = len k := ⟨_, rfl⟩
      have hm2 : m ≤ 1000000 := by rw [hm]; exact HL.out k hlt
      have HM : Hid (m = len k) := hm
      have d1 := cell_later HB.out (H1.out.outer k hlt)
      have d2 := cell_later HB.out (H2.out.outer k hlt)
      rw [← hm] at d1 d2
      clear hm
      go_wp2
      go_quiet (fail)
      clear d1 d2
      go_wp2
      go_loopw [6] (fun a6 wr => ∃ x : Nat, x ≤ m ∧ a6 = .int .i64 x ∧ Below w.heap.size w wr) (fun a6 _ => m - (intOf a6).toNat)
      case atStart => exact ⟨0, Nat.zero_le _, rfl, below_drewB _ HB.out⟩
      case round =>
        obtain ⟨x, hx, rfl, hbe⟩ := hrel
        have HX : Hid (Below w.heap.size w wr) := hbe
        have d1 := cell_later hbe (H1.out.outer k hlt)
        have d2 := cell_later hbe (H2.out.outer k hlt)
        rw [← HM.out] at d1 d2
        clear hbe
        by_cases hxm : x < m
        · have e1 := cell_later HX.out ((H1.out.rows k hlt).cell (by rw [← HM.out]; exact hxm))
          have e2 := cell_later HX.out ((H2.out.rows k hlt).cell (by rw [← HM.out]; exact hxm))
          obtain ⟨y, hy⟩ : ∃ y, y = F k x := ⟨_, rfl⟩
          rw [← hy] at e1 e2
          clear hy
          go_wp2
          go_quiet (fail)
          go_wp2
          go_roundw
          case rel => exact ⟨x + 1, by omega, by go_num, below_drewB _ HX.out⟩
          case measure => simp [intOf]; omega
        · go_wp2
          go_roundw
          case rel => exact ⟨k + 1, by omega, by go_num, HX.out⟩
          case measure => simp [intOf]; omega
    · go_wp2
      go_ret
      exact ⟨rfl, HB.out⟩

end Go.Proofs.Qxb6617998a
