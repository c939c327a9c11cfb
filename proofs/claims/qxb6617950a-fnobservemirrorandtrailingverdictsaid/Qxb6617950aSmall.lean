/-
  The small functions: ZZMakeStreak (6), ZZObserve (7), ZZStreakFields (8), zzMirror (10), the two bounds (5, 9).
-/
import Derived.Test.Qxb6617950aObs
namespace Go.Proofs.Qxb6617950a
open Go.RowKit
set_option linter.unusedVariables false

theorem make_any (s : ByteArray) (ok : Bool) (n ha ua : Int) (w : World) :
    Calls Try.prog 6 #[.string s, .bool ok, .int .i64 n, .int .i64 ha, .int .i64 ua] w fun e w' => e = .returned (.pointer (some ⟨w.heap.size, 0, none⟩)) ∧
      w' = w.alloc (.cells #[.string s, .bool ok, .int .i64 n, .int .i64 ha, .int .i64 ua] 32) := by
  go_enter Try.func6, Try.ntmps6
  go_wp2
  go_ret
  exact ⟨rfl, rfl⟩

theorem streak_new (s : ByteArray) (ok : Bool) (n ha ua : Int) (w : World) :
    Streak (w.alloc (.cells #[.string s, .bool ok, .int .i64 n, .int .i64 ha, .int .i64 ua] 32)) w.heap.size s ok n ha ua := by
  refine ⟨?_, ?_, ?_, ?_, ?_, ?_, ?_, ?_⟩ <;> simp

theorem zzobs_any (g : Nat) (s : ByteArray) (b ok : Bool) (n ha ua : Int) (w : World) (S : Streak w g s ok n ha ua) (hn0 : 0 ≤ n) (hn : n < 9223372036854775807) :
    Calls Try.prog 7 #[.pointer (some ⟨g, 0, none⟩), .bool b] w fun e w' => e = .returned (.bool (chg s b (cnt b ok n) ha ua)) ∧ Streak w' g (nxt s b (cnt b ok n) ha ua) b (cnt b ok n) ha ua ∧ w.grownBy w' (some g) := by
  go_enter Try.func7, Try.ntmps7
  go_wp2_with fail
  refine (observe_any g s b ok n ha ua w S hn0 hn).mono ?_
  rintro e w' ⟨rfl, h⟩
  go_wp2
  go_ret
  exact ⟨rfl, h⟩

theorem fields_any (g : Nat) (s : ByteArray) (ok : Bool) (n ha ua : Int) (w : World) (S : Streak w g s ok n ha ua) :
    Calls Try.prog 8 #[.pointer (some ⟨g, 0, none⟩)] w fun e w' => e = .returned (.tuple #[.string s, .bool ok, .int .i64 n, .int .i64 ha, .int .i64 ua]) ∧ ∃ q, w' = w.drewN q := by
  obtain ⟨c0, c1, c2, c3, c4, f0, f1, f2⟩ := S
  go_enter Try.func8, Try.ntmps8
  go_wp2
  go_quiet (fail)
  go_wp2
  exact bodyPost_ret (v := .tuple #[.string s, .bool ok, .int .i64 n, .int .i64 ha, .int .i64 ua]) (by simp [results, Try.results8, go_sem]) rfl ⟨rfl, _, rfl⟩

def mir (s : ByteArray) : ByteArray := if s = hS then uS else if s = uS then hS else s

theorem mirror_any (s : ByteArray) (w : World) : Calls Try.prog 10 #[.string s] w fun e w' => e = .returned (.string (mir s)) ∧ w' = w := by
  have lu : uS.toList = [85, 78, 72, 69, 65, 76, 84, 72, 89] := by rw [ByteArray.toList_eq]
  have lh : hS.toList = [72, 69, 65, 76, 84, 72, 89] := by rw [ByteArray.toList_eq]
  unfold mir
  by_cases h : s = hS
  · subst h
    rw [if_pos rfl]
    clear lu lh
    go_enter Try.func10, Try.ntmps10
    go_wp2
    go_ret
    exact ⟨rfl, rfl⟩
  · have h1 := str_ne h lh
    rw [if_neg h]
    by_cases k : s = uS
    · subst k
      rw [if_pos rfl]
      clear lu lh h1
      go_enter Try.func10, Try.ntmps10
      go_wp2
      go_ret
      exact ⟨rfl, rfl⟩
    · have h2 := str_ne k lu
      rw [if_neg k]
      clear lu lh
      go_enter Try.func10, Try.ntmps10
      go_wp2
      go_ret
      exact ⟨rfl, rfl⟩

theorem zz5 (s : ByteArray) (ok : Bool) (n ha ua : Int) (a : Option Addr) (m c : Nat) (w : World) (h0 : s.size ≤ 65536) (h1 : m ≤ 65536) :
    Calls Try.prog 5 #[.string s, .bool ok, .int .i64 n, .int .i64 ha, .int .i64 ua, .slice a m c] w fun e w' => e = .returned (.bool true) ∧ w = w' := by
  go_enter Try.func5, Try.ntmps5
  go_wp2
  go_ret
  exact ⟨rfl, rfl⟩

theorem zz9 (s : ByteArray) (ok : Bool) (n ha ua : Int) (a : Option Addr) (m c : Nat) (w : World) (h0 : s.size ≤ 65536) (h1 : m ≤ 65536) :
    Calls Try.prog 9 #[.string s, .bool ok, .int .i64 n, .int .i64 ha, .int .i64 ua, .slice a m c] w fun e w' => e = .returned (.bool true) ∧ w = w' := by
  go_enter Try.func9, Try.ntmps9
  go_wp2
  go_ret
  exact ⟨rfl, rfl⟩

end Go.Proofs.Qxb6617950a
