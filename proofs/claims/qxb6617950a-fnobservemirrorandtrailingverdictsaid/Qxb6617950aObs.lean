/-
  (*streak).observe (function 11), by its contract.
-/
import Derived.Test.Qxb6617950aProg
import Derived.WalkKit
import Derived.WalkSpells
import Derived.Deep.QuietTactic
import Derived.BigQuiet
namespace Go.Proofs.Qxb6617950a
open Go.RowKit
set_option linter.unusedVariables false

abbrev hS : ByteArray := ⟨#[72, 69, 65, 76, 84, 72, 89]⟩
abbrev uS : ByteArray := ⟨#[85, 78, 72, 69, 65, 76, 84, 72, 89]⟩

/-- A streak in block g. -/
structure Streak (w : World) (g : Nat) (s : ByteArray) (ok : Bool) (n ha ua : Int) : Prop where
  c0 : w.cell? ⟨g, 0, none⟩ = some (.string s)
  c1 : w.cell? ⟨g, 1, none⟩ = some (.bool ok)
  c2 : w.cell? ⟨g, 2, none⟩ = some (.int .i64 n)
  c3 : w.cell? ⟨g, 3, none⟩ = some (.int .i64 ha)
  c4 : w.cell? ⟨g, 4, none⟩ = some (.int .i64 ua)
  f0 : w.frozen? ⟨g, 0, none⟩ = false
  f1 : w.frozen? ⟨g, 1, none⟩ = false
  f2 : w.frozen? ⟨g, 2, none⟩ = false

theorem grown_set (w : World) (g o : Nat) (v : Value) : w.grownBy (w.setCell ⟨g, o, none⟩ v) (some g) :=
  ⟨rfl, rfl, rfl, by simp [World.setCell], fun k _ hk => heap_setCell_other w ⟨g, o, none⟩ k v (fun e => hk (by simp [e]))⟩

theorem grown_trans {a b c : World} {r : Option Nat} (h : a.grownBy b r) (k : b.grownBy c r) : a.grownBy c r :=
  ⟨k.os.trans h.os, k.tape.trans h.tape, k.output.trans h.output, Nat.le_trans h.size k.size, fun i hi hr => (k.block i (Nat.lt_of_lt_of_le hi h.size) hr).trans (h.block i hi hr)⟩

theorem grown_drew {a b : World} {r : Option Nat} (q : Nat) (h : a.grownBy b r) : a.grownBy (b.drewN q) r := ⟨h.os, h.tape, h.output, h.size, h.block⟩

theorem addr_ne {g i j : Nat} (h : i ≠ j) : (⟨g, i, none⟩ : Addr) ≠ ⟨g, j, none⟩ := by intro e; cases e; exact h rfl

theorem Streak.set0 {w : World} {g : Nat} {s : ByteArray} {ok : Bool} {n ha ua : Int} (S : Streak w g s ok n ha ua) (t : ByteArray) : Streak (w.setCell ⟨g, 0, none⟩ (.string t)) g t ok n ha ua :=
  ⟨World.cell?_setCell_same _ _ _ S.c0, by rw [World.cell?_setCell_other _ _ _ _ (addr_ne (by omega))]; exact S.c1, by rw [World.cell?_setCell_other _ _ _ _ (addr_ne (by omega))]; exact S.c2,
    by rw [World.cell?_setCell_other _ _ _ _ (addr_ne (by omega))]; exact S.c3, by rw [World.cell?_setCell_other _ _ _ _ (addr_ne (by omega))]; exact S.c4, by simp [S.f0], by simp [S.f1], by simp [S.f2]⟩
theorem Streak.set1 {w : World} {g : Nat} {s : ByteArray} {ok : Bool} {n ha ua : Int} (S : Streak w g s ok n ha ua) (t : Bool) : Streak (w.setCell ⟨g, 1, none⟩ (.bool t)) g s t n ha ua :=
  ⟨by rw [World.cell?_setCell_other _ _ _ _ (addr_ne (by omega))]; exact S.c0, World.cell?_setCell_same _ _ _ S.c1, by rw [World.cell?_setCell_other _ _ _ _ (addr_ne (by omega))]; exact S.c2,
    by rw [World.cell?_setCell_other _ _ _ _ (addr_ne (by omega))]; exact S.c3, by rw [World.cell?_setCell_other _ _ _ _ (addr_ne (by omega))]; exact S.c4, by simp [S.f0], by simp [S.f1], by simp [S.f2]⟩
theorem Streak.set2 {w : World} {g : Nat} {s : ByteArray} {ok : Bool} {n ha ua : Int} (S : Streak w g s ok n ha ua) (t : Int) : Streak (w.setCell ⟨g, 2, none⟩ (.int .i64 t)) g s ok t ha ua :=
  ⟨by rw [World.cell?_setCell_other _ _ _ _ (addr_ne (by omega))]; exact S.c0, by rw [World.cell?_setCell_other _ _ _ _ (addr_ne (by omega))]; exact S.c1, World.cell?_setCell_same _ _ _ S.c2,
    by rw [World.cell?_setCell_other _ _ _ _ (addr_ne (by omega))]; exact S.c3, by rw [World.cell?_setCell_other _ _ _ _ (addr_ne (by omega))]; exact S.c4, by simp [S.f0], by simp [S.f1], by simp [S.f2]⟩
theorem Streak.drew {w : World} {g : Nat} {s : ByteArray} {ok : Bool} {n ha ua : Int} (S : Streak w g s ok n ha ua) (q : Nat) : Streak (w.drewN q) g s ok n ha ua :=
  ⟨S.c0, S.c1, S.c2, S.c3, S.c4, S.f0, S.f1, S.f2⟩

set_option maxHeartbeats 400000 in
theorem obs_t_t_hit (g : Nat) (n ha ua : Int) (w : World) (S : Streak w g uS true n ha ua) (hn0 : 0 ≤ n) (hn : n < 9223372036854775807) (hge : ha ≤ n + 1) :
    Calls Try.prog 11 #[.pointer (some ⟨g, 0, none⟩), .bool true] w fun e w' => e = .returned (.bool true) ∧ Streak w' g hS true (n + 1) ha ua ∧ w.grownBy w' (some g) := by
  have HS : Hid (Streak w g uS true n ha ua) := S
  obtain ⟨c0, c1, c2, c3, c4, f0, f1, f2⟩ := S
  go_enter Try.func11, Try.ntmps11
  go_wp2
  obtain ⟨W, hW⟩ : ∃ W, W = w.setCell ⟨g, 2, none⟩ (.int .i64 (n + 1)) := ⟨_, rfl⟩
  rw [← hW]
  have S1 : Streak W g uS true (n + 1) ha ua := hW ▸ HS.out.set2 _
  have HG : Hid (w.grownBy W (some g)) := hW ▸ grown_set w g 2 _
  clear hW c0 c1 c2 c3 c4 f0 f1 f2 HS
  have HS1 : Hid (Streak W g uS true (n + 1) ha ua) := S1
  obtain ⟨c0, c1, c2, c3, c4, f0, f1, f2⟩ := S1
  go_quiet (fail)
  go_wp2
  go_ret
  exact ⟨rfl, (HS1.out.set0 _).drew _, grown_drew _ (grown_trans HG.out (grown_set _ g 0 _))⟩

set_option maxHeartbeats 400000 in
theorem obs_t_t_low (g : Nat) (n ha ua : Int) (w : World) (S : Streak w g uS true n ha ua) (hn0 : 0 ≤ n) (hn : n < 9223372036854775807) (hge : ¬ ha ≤ n + 1) :
    Calls Try.prog 11 #[.pointer (some ⟨g, 0, none⟩), .bool true] w fun e w' => e = .returned (.bool false) ∧ Streak w' g uS true (n + 1) ha ua ∧ w.grownBy w' (some g) := by
  have HS : Hid (Streak w g uS true n ha ua) := S
  obtain ⟨c0, c1, c2, c3, c4, f0, f1, f2⟩ := S
  go_enter Try.func11, Try.ntmps11
  go_wp2
  obtain ⟨W, hW⟩ : ∃ W, W = w.setCell ⟨g, 2, none⟩ (.int .i64 (n + 1)) := ⟨_, rfl⟩
  rw [← hW]
  have S1 : Streak W g uS true (n + 1) ha ua := hW ▸ HS.out.set2 _
  have HG : Hid (w.grownBy W (some g)) := hW ▸ grown_set w g 2 _
  clear hW c0 c1 c2 c3 c4 f0 f1 f2 HS
  have HS1 : Hid (Streak W g uS true (n + 1) ha ua) := S1
  obtain ⟨c0, c1, c2, c3, c4, f0, f1, f2⟩ := S1
  go_quiet (fail)
  go_wp2
  go_quiet (fail)
  go_wp2
  go_ret
  exact ⟨rfl, (HS1.out.drew _).drew _, grown_drew _ (grown_drew _ HG.out)⟩

set_option maxHeartbeats 400000 in
theorem obs_t_t_oth (g : Nat) (s : ByteArray) (n ha ua : Int) (w : World) (S : Streak w g s true n ha ua) (hn0 : 0 ≤ n) (hn : n < 9223372036854775807) (hs : (s.toList == [85, 78, 72, 69, 65, 76, 84, 72, 89]) = false) :
    Calls Try.prog 11 #[.pointer (some ⟨g, 0, none⟩), .bool true] w fun e w' => e = .returned (.bool false) ∧ Streak w' g s true (n + 1) ha ua ∧ w.grownBy w' (some g) := by
  have HS : Hid (Streak w g s true n ha ua) := S
  obtain ⟨c0, c1, c2, c3, c4, f0, f1, f2⟩ := S
  go_enter Try.func11, Try.ntmps11
  go_wp2
  obtain ⟨W, hW⟩ : ∃ W, W = w.setCell ⟨g, 2, none⟩ (.int .i64 (n + 1)) := ⟨_, rfl⟩
  rw [← hW]
  have S1 : Streak W g s true (n + 1) ha ua := hW ▸ HS.out.set2 _
  have HG : Hid (w.grownBy W (some g)) := hW ▸ grown_set w g 2 _
  clear hW c0 c1 c2 c3 c4 f0 f1 f2 HS
  have HS1 : Hid (Streak W g s true (n + 1) ha ua) := S1
  obtain ⟨c0, c1, c2, c3, c4, f0, f1, f2⟩ := S1
  go_quiet (fail)
  go_wp2
  go_quiet (fail)
  go_wp2
  go_ret
  exact ⟨rfl, (HS1.out.drew _).drew _, grown_drew _ (grown_drew _ HG.out)⟩

set_option maxHeartbeats 400000 in
theorem obs_t_f_hit (g : Nat) (n ha ua : Int) (w : World) (S : Streak w g uS false n ha ua) (hn0 : 0 ≤ n) (hn : n < 9223372036854775807) (hge : ha ≤ 1) :
    Calls Try.prog 11 #[.pointer (some ⟨g, 0, none⟩), .bool true] w fun e w' => e = .returned (.bool true) ∧ Streak w' g hS true (1) ha ua ∧ w.grownBy w' (some g) := by
  have HS : Hid (Streak w g uS false n ha ua) := S
  obtain ⟨c0, c1, c2, c3, c4, f0, f1, f2⟩ := S
  go_enter Try.func11, Try.ntmps11
  go_wp2
  obtain ⟨W, hW⟩ : ∃ W, W = ((w.setCell ⟨g, 1, none⟩ (.bool true)).setCell ⟨g, 2, none⟩ (.int .i64 0)).setCell ⟨g, 2, none⟩ (.int .i64 1) := ⟨_, rfl⟩
  rw [← hW]
  have S1 : Streak W g uS true (1) ha ua := hW ▸ ((HS.out.set1 _).set2 _).set2 _
  have HG : Hid (w.grownBy W (some g)) := hW ▸ grown_trans (grown_trans (grown_set w g 1 _) (grown_set _ g 2 _)) (grown_set _ g 2 _)
  clear hW c0 c1 c2 c3 c4 f0 f1 f2 HS
  have HS1 : Hid (Streak W g uS true (1) ha ua) := S1
  obtain ⟨c0, c1, c2, c3, c4, f0, f1, f2⟩ := S1
  go_quiet (fail)
  go_wp2
  go_ret
  exact ⟨rfl, (HS1.out.set0 _).drew _, grown_drew _ (grown_trans HG.out (grown_set _ g 0 _))⟩

set_option maxHeartbeats 400000 in
theorem obs_t_f_low (g : Nat) (n ha ua : Int) (w : World) (S : Streak w g uS false n ha ua) (hn0 : 0 ≤ n) (hn : n < 9223372036854775807) (hge : ¬ ha ≤ 1) :
    Calls Try.prog 11 #[.pointer (some ⟨g, 0, none⟩), .bool true] w fun e w' => e = .returned (.bool false) ∧ Streak w' g uS true (1) ha ua ∧ w.grownBy w' (some g) := by
  have HS : Hid (Streak w g uS false n ha ua) := S
  obtain ⟨c0, c1, c2, c3, c4, f0, f1, f2⟩ := S
  go_enter Try.func11, Try.ntmps11
  go_wp2
  obtain ⟨W, hW⟩ : ∃ W, W = ((w.setCell ⟨g, 1, none⟩ (.bool true)).setCell ⟨g, 2, none⟩ (.int .i64 0)).setCell ⟨g, 2, none⟩ (.int .i64 1) := ⟨_, rfl⟩
  rw [← hW]
  have S1 : Streak W g uS true (1) ha ua := hW ▸ ((HS.out.set1 _).set2 _).set2 _
  have HG : Hid (w.grownBy W (some g)) := hW ▸ grown_trans (grown_trans (grown_set w g 1 _) (grown_set _ g 2 _)) (grown_set _ g 2 _)
  clear hW c0 c1 c2 c3 c4 f0 f1 f2 HS
  have HS1 : Hid (Streak W g uS true (1) ha ua) := S1
  obtain ⟨c0, c1, c2, c3, c4, f0, f1, f2⟩ := S1
  go_quiet (fail)
  go_wp2
  go_quiet (fail)
  go_wp2
  go_ret
  exact ⟨rfl, (HS1.out.drew _).drew _, grown_drew _ (grown_drew _ HG.out)⟩

set_option maxHeartbeats 400000 in
theorem obs_t_f_oth (g : Nat) (s : ByteArray) (n ha ua : Int) (w : World) (S : Streak w g s false n ha ua) (hn0 : 0 ≤ n) (hn : n < 9223372036854775807) (hs : (s.toList == [85, 78, 72, 69, 65, 76, 84, 72, 89]) = false) :
    Calls Try.prog 11 #[.pointer (some ⟨g, 0, none⟩), .bool true] w fun e w' => e = .returned (.bool false) ∧ Streak w' g s true (1) ha ua ∧ w.grownBy w' (some g) := by
  have HS : Hid (Streak w g s false n ha ua) := S
  obtain ⟨c0, c1, c2, c3, c4, f0, f1, f2⟩ := S
  go_enter Try.func11, Try.ntmps11
  go_wp2
  obtain ⟨W, hW⟩ : ∃ W, W = ((w.setCell ⟨g, 1, none⟩ (.bool true)).setCell ⟨g, 2, none⟩ (.int .i64 0)).setCell ⟨g, 2, none⟩ (.int .i64 1) := ⟨_, rfl⟩
  rw [← hW]
  have S1 : Streak W g s true (1) ha ua := hW ▸ ((HS.out.set1 _).set2 _).set2 _
  have HG : Hid (w.grownBy W (some g)) := hW ▸ grown_trans (grown_trans (grown_set w g 1 _) (grown_set _ g 2 _)) (grown_set _ g 2 _)
  clear hW c0 c1 c2 c3 c4 f0 f1 f2 HS
  have HS1 : Hid (Streak W g s true (1) ha ua) := S1
  obtain ⟨c0, c1, c2, c3, c4, f0, f1, f2⟩ := S1
  go_quiet (fail)
  go_wp2
  go_quiet (fail)
  go_wp2
  go_ret
  exact ⟨rfl, (HS1.out.drew _).drew _, grown_drew _ (grown_drew _ HG.out)⟩

set_option maxHeartbeats 400000 in
theorem obs_f_t_hit (g : Nat) (n ha ua : Int) (w : World) (S : Streak w g hS true n ha ua) (hn0 : 0 ≤ n) (hn : n < 9223372036854775807) (hge : ua ≤ 1) :
    Calls Try.prog 11 #[.pointer (some ⟨g, 0, none⟩), .bool false] w fun e w' => e = .returned (.bool true) ∧ Streak w' g uS false (1) ha ua ∧ w.grownBy w' (some g) := by
  have HS : Hid (Streak w g hS true n ha ua) := S
  obtain ⟨c0, c1, c2, c3, c4, f0, f1, f2⟩ := S
  go_enter Try.func11, Try.ntmps11
  go_wp2
  obtain ⟨W, hW⟩ : ∃ W, W = ((w.setCell ⟨g, 1, none⟩ (.bool false)).setCell ⟨g, 2, none⟩ (.int .i64 0)).setCell ⟨g, 2, none⟩ (.int .i64 1) := ⟨_, rfl⟩
  rw [← hW]
  have S1 : Streak W g hS false (1) ha ua := hW ▸ ((HS.out.set1 _).set2 _).set2 _
  have HG : Hid (w.grownBy W (some g)) := hW ▸ grown_trans (grown_trans (grown_set w g 1 _) (grown_set _ g 2 _)) (grown_set _ g 2 _)
  clear hW c0 c1 c2 c3 c4 f0 f1 f2 HS
  have HS1 : Hid (Streak W g hS false (1) ha ua) := S1
  obtain ⟨c0, c1, c2, c3, c4, f0, f1, f2⟩ := S1
  go_quiet (fail)
  go_wp2
  go_quiet (fail)
  go_wp2
  go_ret
  exact ⟨rfl, (HS1.out.set0 _).drew _, grown_drew _ (grown_trans HG.out (grown_set _ g 0 _))⟩

set_option maxHeartbeats 400000 in
theorem obs_f_t_low (g : Nat) (n ha ua : Int) (w : World) (S : Streak w g hS true n ha ua) (hn0 : 0 ≤ n) (hn : n < 9223372036854775807) (hge : ¬ ua ≤ 1) :
    Calls Try.prog 11 #[.pointer (some ⟨g, 0, none⟩), .bool false] w fun e w' => e = .returned (.bool false) ∧ Streak w' g hS false (1) ha ua ∧ w.grownBy w' (some g) := by
  have HS : Hid (Streak w g hS true n ha ua) := S
  obtain ⟨c0, c1, c2, c3, c4, f0, f1, f2⟩ := S
  go_enter Try.func11, Try.ntmps11
  go_wp2
  obtain ⟨W, hW⟩ : ∃ W, W = ((w.setCell ⟨g, 1, none⟩ (.bool false)).setCell ⟨g, 2, none⟩ (.int .i64 0)).setCell ⟨g, 2, none⟩ (.int .i64 1) := ⟨_, rfl⟩
  rw [← hW]
  have S1 : Streak W g hS false (1) ha ua := hW ▸ ((HS.out.set1 _).set2 _).set2 _
  have HG : Hid (w.grownBy W (some g)) := hW ▸ grown_trans (grown_trans (grown_set w g 1 _) (grown_set _ g 2 _)) (grown_set _ g 2 _)
  clear hW c0 c1 c2 c3 c4 f0 f1 f2 HS
  have HS1 : Hid (Streak W g hS false (1) ha ua) := S1
  obtain ⟨c0, c1, c2, c3, c4, f0, f1, f2⟩ := S1
  go_quiet (fail)
  go_wp2
  go_quiet (fail)
  go_wp2
  go_ret
  exact ⟨rfl, (HS1.out.drew _).drew _, grown_drew _ (grown_drew _ HG.out)⟩

set_option maxHeartbeats 400000 in
theorem obs_f_t_oth (g : Nat) (s : ByteArray) (n ha ua : Int) (w : World) (S : Streak w g s true n ha ua) (hn0 : 0 ≤ n) (hn : n < 9223372036854775807) (hs : (s.toList == [72, 69, 65, 76, 84, 72, 89]) = false) :
    Calls Try.prog 11 #[.pointer (some ⟨g, 0, none⟩), .bool false] w fun e w' => e = .returned (.bool false) ∧ Streak w' g s false (1) ha ua ∧ w.grownBy w' (some g) := by
  have HS : Hid (Streak w g s true n ha ua) := S
  obtain ⟨c0, c1, c2, c3, c4, f0, f1, f2⟩ := S
  go_enter Try.func11, Try.ntmps11
  go_wp2
  obtain ⟨W, hW⟩ : ∃ W, W = ((w.setCell ⟨g, 1, none⟩ (.bool false)).setCell ⟨g, 2, none⟩ (.int .i64 0)).setCell ⟨g, 2, none⟩ (.int .i64 1) := ⟨_, rfl⟩
  rw [← hW]
  have S1 : Streak W g s false (1) ha ua := hW ▸ ((HS.out.set1 _).set2 _).set2 _
  have HG : Hid (w.grownBy W (some g)) := hW ▸ grown_trans (grown_trans (grown_set w g 1 _) (grown_set _ g 2 _)) (grown_set _ g 2 _)
  clear hW c0 c1 c2 c3 c4 f0 f1 f2 HS
  have HS1 : Hid (Streak W g s false (1) ha ua) := S1
  obtain ⟨c0, c1, c2, c3, c4, f0, f1, f2⟩ := S1
  go_quiet (fail)
  go_wp2
  go_quiet (fail)
  go_wp2
  go_ret
  exact ⟨rfl, (HS1.out.drew _).drew _, grown_drew _ (grown_drew _ HG.out)⟩

set_option maxHeartbeats 400000 in
theorem obs_f_f_hit (g : Nat) (n ha ua : Int) (w : World) (S : Streak w g hS false n ha ua) (hn0 : 0 ≤ n) (hn : n < 9223372036854775807) (hge : ua ≤ n + 1) :
    Calls Try.prog 11 #[.pointer (some ⟨g, 0, none⟩), .bool false] w fun e w' => e = .returned (.bool true) ∧ Streak w' g uS false (n + 1) ha ua ∧ w.grownBy w' (some g) := by
  have HS : Hid (Streak w g hS false n ha ua) := S
  obtain ⟨c0, c1, c2, c3, c4, f0, f1, f2⟩ := S
  go_enter Try.func11, Try.ntmps11
  go_wp2
  obtain ⟨W, hW⟩ : ∃ W, W = w.setCell ⟨g, 2, none⟩ (.int .i64 (n + 1)) := ⟨_, rfl⟩
  rw [← hW]
  have S1 : Streak W g hS false (n + 1) ha ua := hW ▸ HS.out.set2 _
  have HG : Hid (w.grownBy W (some g)) := hW ▸ grown_set w g 2 _
  clear hW c0 c1 c2 c3 c4 f0 f1 f2 HS
  have HS1 : Hid (Streak W g hS false (n + 1) ha ua) := S1
  obtain ⟨c0, c1, c2, c3, c4, f0, f1, f2⟩ := S1
  go_quiet (fail)
  go_wp2
  go_quiet (fail)
  go_wp2
  go_ret
  exact ⟨rfl, (HS1.out.set0 _).drew _, grown_drew _ (grown_trans HG.out (grown_set _ g 0 _))⟩

set_option maxHeartbeats 400000 in
theorem obs_f_f_low (g : Nat) (n ha ua : Int) (w : World) (S : Streak w g hS false n ha ua) (hn0 : 0 ≤ n) (hn : n < 9223372036854775807) (hge : ¬ ua ≤ n + 1) :
    Calls Try.prog 11 #[.pointer (some ⟨g, 0, none⟩), .bool false] w fun e w' => e = .returned (.bool false) ∧ Streak w' g hS false (n + 1) ha ua ∧ w.grownBy w' (some g) := by
  have HS : Hid (Streak w g hS false n ha ua) := S
  obtain ⟨c0, c1, c2, c3, c4, f0, f1, f2⟩ := S
  go_enter Try.func11, Try.ntmps11
  go_wp2
  obtain ⟨W, hW⟩ : ∃ W, W = w.setCell ⟨g, 2, none⟩ (.int .i64 (n + 1)) := ⟨_, rfl⟩
  rw [← hW]
  have S1 : Streak W g hS false (n + 1) ha ua := hW ▸ HS.out.set2 _
  have HG : Hid (w.grownBy W (some g)) := hW ▸ grown_set w g 2 _
  clear hW c0 c1 c2 c3 c4 f0 f1 f2 HS
  have HS1 : Hid (Streak W g hS false (n + 1) ha ua) := S1
  obtain ⟨c0, c1, c2, c3, c4, f0, f1, f2⟩ := S1
  go_quiet (fail)
  go_wp2
  go_quiet (fail)
  go_wp2
  go_ret
  exact ⟨rfl, (HS1.out.drew _).drew _, grown_drew _ (grown_drew _ HG.out)⟩

set_option maxHeartbeats 400000 in
theorem obs_f_f_oth (g : Nat) (s : ByteArray) (n ha ua : Int) (w : World) (S : Streak w g s false n ha ua) (hn0 : 0 ≤ n) (hn : n < 9223372036854775807) (hs : (s.toList == [72, 69, 65, 76, 84, 72, 89]) = false) :
    Calls Try.prog 11 #[.pointer (some ⟨g, 0, none⟩), .bool false] w fun e w' => e = .returned (.bool false) ∧ Streak w' g s false (n + 1) ha ua ∧ w.grownBy w' (some g) := by
  have HS : Hid (Streak w g s false n ha ua) := S
  obtain ⟨c0, c1, c2, c3, c4, f0, f1, f2⟩ := S
  go_enter Try.func11, Try.ntmps11
  go_wp2
  obtain ⟨W, hW⟩ : ∃ W, W = w.setCell ⟨g, 2, none⟩ (.int .i64 (n + 1)) := ⟨_, rfl⟩
  rw [← hW]
  have S1 : Streak W g s false (n + 1) ha ua := hW ▸ HS.out.set2 _
  have HG : Hid (w.grownBy W (some g)) := hW ▸ grown_set w g 2 _
  clear hW c0 c1 c2 c3 c4 f0 f1 f2 HS
  have HS1 : Hid (Streak W g s false (n + 1) ha ua) := S1
  obtain ⟨c0, c1, c2, c3, c4, f0, f1, f2⟩ := S1
  go_quiet (fail)
  go_wp2
  go_quiet (fail)
  go_wp2
  go_ret
  exact ⟨rfl, (HS1.out.drew _).drew _, grown_drew _ (grown_drew _ HG.out)⟩

/-! ### one contract -/
/-- The count behind one result. -/
def cnt (b ok : Bool) (n : Int) : Int := if b = ok then n + 1 else 1
/-- Does the state change? -/
def chg (s : ByteArray) (b : Bool) (m ha ua : Int) : Bool := if b = true then decide (s = uS ∧ ha ≤ m) else decide (s = hS ∧ ua ≤ m)
/-- The state behind one result. -/
def nxt (s : ByteArray) (b : Bool) (m ha ua : Int) : ByteArray := if chg s b m ha ua = true then (if b = true then hS else uS) else s

theorem str_ne {s t : ByteArray} {l : List UInt8} (h : s ≠ t) (hl : t.toList = l) : (s.toList == l) = false := by
  rw [beq_eq_false_iff_ne]
  intro e
  apply h
  rw [← hl, ByteArray.toList_eq, ByteArray.toList_eq] at e
  cases s; cases t
  simp only [ByteArray.mk.injEq]
  exact Array.toList_inj.1 e

theorem observe_any (g : Nat) (s : ByteArray) (b ok : Bool) (n ha ua : Int) (w : World) (S : Streak w g s ok n ha ua) (hn0 : 0 ≤ n) (hn : n < 9223372036854775807) :
    Calls Try.prog 11 #[.pointer (some ⟨g, 0, none⟩), .bool b] w fun e w' => e = .returned (.bool (chg s b (cnt b ok n) ha ua)) ∧ Streak w' g (nxt s b (cnt b ok n) ha ua) b (cnt b ok n) ha ua ∧ w.grownBy w' (some g) := by
  have lu : uS.toList = [85, 78, 72, 69, 65, 76, 84, 72, 89] := by rw [ByteArray.toList_eq]
  have lh : hS.toList = [72, 69, 65, 76, 84, 72, 89] := by rw [ByteArray.toList_eq]
  cases b
  · by_cases hs : s = hS
    · subst hs
      cases ok
      · by_cases hge : ua ≤ n + 1
        · have : chg hS false (n + 1) ha ua = true := by simp [chg, hge]
          simpa [cnt, nxt, this] using obs_f_f_hit g n ha ua w S hn0 hn hge
        · have : chg hS false (n + 1) ha ua = false := by simp [chg, hge]
          simpa [cnt, nxt, this] using obs_f_f_low g n ha ua w S hn0 hn hge
      · by_cases hge : ua ≤ 1
        · have : chg hS false 1 ha ua = true := by simp [chg, hge]
          simpa [cnt, nxt, this] using obs_f_t_hit g n ha ua w S hn0 hn hge
        · have : chg hS false 1 ha ua = false := by simp [chg, hge]
          simpa [cnt, nxt, this] using obs_f_t_low g n ha ua w S hn0 hn hge
    · have : ∀ m, chg s false m ha ua = false := by intro m; simp [chg, hs]
      cases ok
      · simpa [cnt, nxt, this] using obs_f_f_oth g s n ha ua w S hn0 hn (str_ne hs lh)
      · simpa [cnt, nxt, this] using obs_f_t_oth g s n ha ua w S hn0 hn (str_ne hs lh)
  · by_cases hs : s = uS
    · subst hs
      cases ok
      · by_cases hge : ha ≤ 1
        · have : chg uS true 1 ha ua = true := by simp [chg, hge]
          simpa [cnt, nxt, this] using obs_t_f_hit g n ha ua w S hn0 hn hge
        · have : chg uS true 1 ha ua = false := by simp [chg, hge]
          simpa [cnt, nxt, this] using obs_t_f_low g n ha ua w S hn0 hn hge
      · by_cases hge : ha ≤ n + 1
        · have : chg uS true (n + 1) ha ua = true := by simp [chg, hge]
          simpa [cnt, nxt, this] using obs_t_t_hit g n ha ua w S hn0 hn hge
        · have : chg uS true (n + 1) ha ua = false := by simp [chg, hge]
          simpa [cnt, nxt, this] using obs_t_t_low g n ha ua w S hn0 hn hge
    · have : ∀ m, chg s true m ha ua = false := by intro m; simp [chg, hs]
      cases ok
      · simpa [cnt, nxt, this] using obs_t_f_oth g s n ha ua w S hn0 hn (str_ne hs lu)
      · simpa [cnt, nxt, this] using obs_t_t_oth g s n ha ua w S hn0 hn (str_ne hs lu)

end Go.Proofs.Qxb6617950a
