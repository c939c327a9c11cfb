/-
  The walk of 'FnRankAheadIsStrictTotalOrder' (function 7).
-/
import Derived.Test.Qxb6617998aProg
import Derived.WalkKit
namespace Go.Proofs.Qxb6617998a
open Go.RowKit
set_option linter.unusedVariables false

/-- 'ahead' on two ranks. -/
def ah (c1 : Bool) (s1 : Int) (c2 : Bool) (s2 : Int) : Bool := if c1 = c2 then decide (s1 < s2) else c1

theorem rank_any (c1 : Bool) (s1 : Int) (c2 : Bool) (s2 : Int) (w : World) (r : Bool) (hr : ah c1 s1 c2 s2 = r) :
    Calls Try.prog 24 #[.bool c1, .int .u64 s1, .bool c2, .int .u64 s2] w fun e w' => e = .returned (.bool r) ∧ Grown w w' := by
  subst hr
  unfold ah
  cases c1 <;> cases c2
  all_goals
    go_enter Try.func24, Try.ntmps24
    go_wp2
    go_ret
    exact ⟨rfl, by repeat (first | exact Grown.refl _ | apply Grown.drew | apply Grown.alloc)⟩

theorem grown_trans {a b c : World} (h : Grown a b) (k : Grown b c) : Grown a c := ⟨World.keptBut_trans h.1 k.1, fun x => (k.2.1 x).trans (h.2.1 x), Nat.le_trans h.2.2 k.2.2⟩

set_option maxRecDepth 100000 in
theorem order_core (a0 : Bool) (a1 : Int) (a2 : Bool) (a3 : Int) (a4 : Bool) (a5 : Int) (w : World) (ab ba bc ac : Bool)
    (hab : ah a0 a1 a2 a3 = ab) (hba : ah a2 a3 a0 a1 = ba) (hbc : ah a2 a3 a4 a5 = bc) (hac : ah a0 a1 a4 a5 = ac)
    (h : (a0 = a2 ∧ a1 = a3 ∧ ab = false ∧ ba = false) ∨
      (((a0 == a2) = false ∨ (a0 = a2 ∧ (a1 == a3) = false)) ∧ ((ab = true ∧ ba = false ∧ (bc = false ∨ (bc = true ∧ ac = true))) ∨ (ab = false ∧ ba = true)))) :
    Calls Try.prog 7 #[.bool a0, .int .u64 a1, .bool a2, .int .u64 a3, .bool a4, .int .u64 a5] w fun e w' => e = .returned (.bool true) ∧ Grown w w' := by
  have H1 : Hid (ah a0 a1 a2 a3 = ab) := hab
  have H2 : Hid (ah a2 a3 a0 a1 = ba) := hba
  have H3 : Hid (ah a2 a3 a4 a5 = bc) := hbc
  have H4 : Hid (ah a0 a1 a4 a5 = ac) := hac
  clear hab hba hbc hac
  rcases h with ⟨rfl, rfl, rfl, rfl⟩ | ⟨h1 | ⟨rfl, h1⟩, ⟨rfl, rfl, rfl | ⟨rfl, rfl⟩⟩ | ⟨rfl, rfl⟩⟩
  all_goals
    go_enter Try.func7, Try.ntmps7
    go_wp2_with fail
    refine (rank_any _ _ _ _ _ _ H1.out).mono ?_
    rintro e w1 ⟨rfl, g1⟩
    go_wp2_with fail
    refine (rank_any _ _ _ _ _ _ H2.out).mono ?_
    rintro e w2 ⟨rfl, g2⟩
    go_wp2_with fail
    refine (rank_any _ _ _ _ _ _ H3.out).mono ?_
    rintro e w3 ⟨rfl, g3⟩
    go_wp2_with fail
    refine (rank_any _ _ _ _ _ _ H4.out).mono ?_
    rintro e w4 ⟨rfl, g4⟩
    go_wp2
    go_ret
    exact ⟨rfl, grown_trans (grown_trans (grown_trans g1 g2) g3) g4⟩

theorem order_any (a0 : Bool) (a1 : Int) (a2 : Bool) (a3 : Int) (a4 : Bool) (a5 : Int) (w : World) :
    Calls Try.prog 7 #[.bool a0, .int .u64 a1, .bool a2, .int .u64 a3, .bool a4, .int .u64 a5] w fun e w' => e = .returned (.bool true) ∧ Grown w w' := by
  refine order_core a0 a1 a2 a3 a4 a5 w _ _ _ _ rfl rfl rfl rfl ?_
  unfold ah
  have h : a1 < a3 ∨ a1 = a3 ∨ a3 < a1 := by omega
  cases a0 <;> cases a2 <;> cases a4 <;> simp <;> omega

end Go.Proofs.Qxb6617998a
