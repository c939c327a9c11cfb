/-
  has (function 19), levelsFit (9), the bound (23): on the levels that came in.
-/
import Derived.Test.Qxb6617998aDeep
namespace Go.Proofs.Qxb6617998a
open Go.RowKit Go.Deep Plain
set_option linter.unusedVariables false

/-- It answers a bool and leaves the world; where it says yes, P. -/
def Ans (P : Prop) (w : World) (e : Ending) (w' : World) : Prop := ∃ b, e = .returned (.bool b) ∧ w = w' ∧ (b = true → P)
theorem Ans.mk {P : Prop} {w w' : World} {e : Ending} (b : Bool) (he : e = .returned (.bool b)) (hw : w = w') (h : b = true → P) : Ans P w e w' := ⟨b, he, hw, h⟩

/-- What levelsFit vouches for. -/
structure Fit (n : Nat) (len : Nat → Nat) : Prop where
  outer : n ≤ 131072
  inner : ∀ k, k < n → len k ≤ 131072

theorem has_none (a : Option Addr) (cap i : Nat) (w : World) :
    Calls Try.prog 19 #[.slice a 0 cap, .int .i64 i] w fun e w' => e = .returned (.bool false) ∧ w = w' := by
  have h : ¬ ((i : Int) < 0) := by omega
  go_enter Try.func19, Try.ntmps19
  go_wp2
  go_ret
  exact ⟨rfl, rfl⟩

theorem has_any (bo oo n cap0 i : Nat) (A : Nat → Option Addr) (len cap Bk Ok : Nat → Nat) (F : Nat → Nat → Nat) (w : World) (hR : RL w bo oo n A len cap Bk Ok F) (hn : 1 ≤ n) (hn2 : n ≤ 1000000) (hl : len 0 ≤ 1000000) (hi0 : i ≤ 9223372036854775807) :
    Calls Try.prog 19 #[.slice (some ⟨bo, oo, none⟩) n cap0, .int .i64 i] w fun e w' => Ans (i / 64 < len 0) w e w' := by
  have h : ¬ ((i : Int) < 0) := by omega
  have hz : ((n : Int) == 0) = false := by simp; omega
  have hn0 : 0 < n := hn
  have c0 := hR.outer 0 hn
  rw [Nat.add_zero] at c0
  obtain ⟨m, hm⟩ : ∃ m, m = len 0 := ⟨_, rfl⟩
  by_cases hi : i / 64 < m
  · have ha := hR.addr 0 hn (by omega)
    have c1 := hR.inner 0 hn (i / 64) (by omega)
    rw [ha, ← hm] at c0
    have HI : Hid (i / 64 < len 0) := by show _ < _; omega
    rw [← hm] at hl
    clear hR ha hm
    go_enter Try.func19, Try.ntmps19
    go_wp2
    go_ret
    exact Ans.mk _ rfl rfl (fun _ => HI.out)
  · rw [← hm] at c0
    rw [← hm] at hl
    have hi' : (m : Int) ≤ (i : Int) / 64 := by omega
    clear hR hm
    go_enter Try.func19, Try.ntmps19
    go_wp2
    go_ret
    exact Ans.mk false rfl rfl (fun h => by cases h)

set_option maxHeartbeats 1000000 in
/-- levelsFit answers; where it says yes the outer length is small, and so is each level's. -/
theorem fit_any (bo oo n cap0 : Nat) (A : Nat → Option Addr) (len cap Bk Ok : Nat → Nat) (F : Nat → Nat → Nat) (w : World) (hR : RL w bo oo n A len cap Bk Ok F) (hn : n ≤ maxLen) (hl : ∀ k, k < n → len k ≤ maxLen) :
    Calls Try.prog 9 #[.slice (some ⟨bo, oo, none⟩) n cap0] w fun e w' => Ans (Fit n len) w e w' := by
  unfold maxLen at hn hl
  have HR : Hid (RL w bo oo n A len cap Bk Ok F) := hR
  have HL : Hid (∀ k, k < n → len k ≤ 9223372036854775807) := hl
  clear hR hl
  by_cases hbig : n ≤ 131072
  · go_enter Try.func9, Try.ntmps9
    go_wp2
    go_loop [3, 4] (fun a3 a4 => ∃ (k t : Nat), k ≤ n ∧ t ≤ 131072 ∧ a4 = .int .i64 k ∧ a3 = .int .i64 t ∧ Hid (∀ l, l < k → len l ≤ 131072)) (fun _ a4 => n - (intOf a4).toNat)
    case atStart => exact ⟨0, n, Nat.zero_le _, hbig, rfl, rfl, fun l hl => by omega⟩
    case round =>
      obtain ⟨k, t, hk, ht, rfl, rfl, hall⟩ := hrel
      by_cases hlt : k < n
      · have c0 := HR.out.outer k hlt
        have hm := HL.out k hlt
        obtain ⟨m, hme⟩ : ∃ m, m = len k := ⟨_, rfl⟩
        rw [← hme] at c0 hm
        have HM : Hid (m = len k) := hme
        clear hme
        by_cases hm1 : m ≤ 131072
        · by_cases hm2 : t + m ≤ 131072
          · go_wp2
            go_round
            case rel => exact ⟨k + 1, t + m, by omega, hm2, by go_num, by go_num, fun l hl => by
              by_cases e : l = k
              · subst e; rw [← HM.out]; exact hm1
              · exact hall.out l (by omega)⟩
            case measure => simp [intOf]; omega
          · go_wp2
            go_ret
            exact Ans.mk false rfl rfl (fun h => by cases h)
        · go_wp2
          go_ret
          exact Ans.mk false rfl rfl (fun h => by cases h)
      · obtain rfl : k = n := by omega
        go_wp2
        go_ret
        exact Ans.mk true rfl rfl (fun _ => ⟨hbig, hall.out⟩)
  · go_enter Try.func9, Try.ntmps9
    go_wp2
    go_ret
    exact Ans.mk false rfl rfl (fun h => by cases h)

set_option maxHeartbeats 1000000 in
/-- The bound answers. -/
theorem zz_any (bo oo n cap0 : Nat) (i j : Int) (A : Nat → Option Addr) (len cap Bk Ok : Nat → Nat) (F : Nat → Nat → Nat) (w : World) (hR : RL w bo oo n A len cap Bk Ok F) (hn : n ≤ maxLen) (hl : ∀ k, k < n → len k ≤ maxLen) :
    Calls Try.prog 23 #[.slice (some ⟨bo, oo, none⟩) n cap0, .int .i64 i, .int .i64 j] w fun e w' => Ans True w e w' := by
  unfold maxLen at hn hl
  have HR : Hid (RL w bo oo n A len cap Bk Ok F) := hR
  have HL : Hid (∀ k, k < n → len k ≤ 9223372036854775807) := hl
  clear hR hl
  by_cases hbig : n ≤ 1048576
  · go_enter Try.func23, Try.ntmps23
    go_wp2
    go_loop [7, 8] (fun a3 a4 => ∃ (k t : Nat), k ≤ n ∧ t ≤ 1048576 ∧ a4 = .int .i64 k ∧ a3 = .int .i64 t) (fun _ a4 => n - (intOf a4).toNat)
    case atStart => exact ⟨0, n, Nat.zero_le _, hbig, rfl, by go_num⟩
    case round =>
      obtain ⟨k, t, hk, ht, rfl, rfl⟩ := hrel
      by_cases hlt : k < n
      · have c0 := HR.out.outer k hlt
        have hm := HL.out k hlt
        obtain ⟨m, hme⟩ : ∃ m, m = len k := ⟨_, rfl⟩
        rw [← hme] at c0 hm
        clear hme
        by_cases hm1 : m ≤ 1048576
        · by_cases hm2 : t + m ≤ 1048576
          · go_wp2
            go_round
            case rel => exact ⟨k + 1, t + m, by omega, hm2, by go_num, by go_num⟩
            case measure => simp [intOf]; omega
          · go_wp2
            go_ret
            exact Ans.mk _ rfl rfl (fun _ => trivial)
        · go_wp2
          go_ret
          exact Ans.mk _ rfl rfl (fun _ => trivial)
      · go_wp2
        go_ret
        exact Ans.mk _ rfl rfl (fun _ => trivial)
  · go_enter Try.func23, Try.ntmps23
    go_wp2
    go_ret
    exact Ans.mk _ rfl rfl (fun _ => trivial)

end Go.Proofs.Qxb6617998a
