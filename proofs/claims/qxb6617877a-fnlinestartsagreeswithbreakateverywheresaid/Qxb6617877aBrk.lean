/-
  yamlnode.breakAt (function 21): it returns 'brk f i'; nothing old has turned.
-/
import Derived.Test.Qxb6617877aHas
namespace Go.Proofs.Qxb6617877a
open Go.RowKit Plain
set_option linter.unusedVariables false

/-- The slice at block g, from its head on, holds the n bytes f 0, f 1, ..; f is 0 beyond them. -/
structure Text (w : World) (g n c : Nat) (f : Nat → Int) : Prop where
  cap : n ≤ c
  small : n ≤ 16777216
  cell : ∀ i, i < n → w.cell? ⟨g, i, none⟩ = some (.int .u8 (f i))
  byte : ∀ i, 0 ≤ f i ∧ f i ≤ 255
  past : ∀ i, n ≤ i → f i = 0
  lt : g < w.heap.size

theorem brk_lf (g n c i : Nat) (w : World) (hi : i < n) (hs : n ≤ 16777216) (hx : w.cell? ⟨g, i, none⟩ = some (.int .u8 10)) :
    Calls Try.prog 21 #[.slice (some ⟨g, 0, none⟩) n c, .int .i64 i] w fun e w' => e = .returned (.int .i64 1) ∧ w' = w := by
  go_enter Try.func21, Try.ntmps21
  go_wp2
  go_ret
  exact ⟨rfl, rfl⟩

theorem brk_crlf (g n c i : Nat) (w : World) (hi : i + 1 < n) (hs : n ≤ 16777216) (hx : w.cell? ⟨g, i, none⟩ = some (.int .u8 13)) (hy : w.cell? ⟨g, i + 1, none⟩ = some (.int .u8 10)) :
    Calls Try.prog 21 #[.slice (some ⟨g, 0, none⟩) n c, .int .i64 i] w fun e w' => e = .returned (.int .i64 2) ∧ w' = w := by
  go_enter Try.func21, Try.ntmps21
  go_wp2
  go_ret
  exact ⟨rfl, rfl⟩

theorem brk_cr_not (g n c i : Nat) (w : World) (y : Int) (hi : i + 1 < n) (hs : n ≤ 16777216) (hx : w.cell? ⟨g, i, none⟩ = some (.int .u8 13)) (hy : w.cell? ⟨g, i + 1, none⟩ = some (.int .u8 y)) (hn : (y == 10) = false) :
    Calls Try.prog 21 #[.slice (some ⟨g, 0, none⟩) n c, .int .i64 i] w fun e w' => e = .returned (.int .i64 1) ∧ w' = w := by
  go_enter Try.func21, Try.ntmps21
  go_wp2
  go_ret
  exact ⟨rfl, rfl⟩

theorem brk_cr_end (g n c i : Nat) (w : World) (hi : i < n) (hi' : ¬ i + 1 < n) (hs : n ≤ 16777216) (hx : w.cell? ⟨g, i, none⟩ = some (.int .u8 13)) :
    Calls Try.prog 21 #[.slice (some ⟨g, 0, none⟩) n c, .int .i64 i] w fun e w' => e = .returned (.int .i64 1) ∧ w' = w := by
  go_enter Try.func21, Try.ntmps21
  go_wp2
  go_ret
  exact ⟨rfl, rfl⟩

theorem brk_nel (g n c i : Nat) (w : World) (y : Int) (hi : i + 1 < n) (hs : n ≤ 16777216) (hx : w.cell? ⟨g, i, none⟩ = some (.int .u8 194)) (hy : w.cell? ⟨g, i + 1, none⟩ = some (.int .u8 y)) :
    Calls Try.prog 21 #[.slice (some ⟨g, 0, none⟩) n c, .int .i64 i] w fun e w' => e = .returned (.int .i64 (if y = 133 then 2 else 0)) ∧ w' = w := by
  by_cases h : y = 133
  · subst h
    go_enter Try.func21, Try.ntmps21
    go_wp2
    go_ret
    exact ⟨rfl, rfl⟩
  · have h' : (y == 133) = false := by simpa using h
    rw [if_neg h]
    go_enter Try.func21, Try.ntmps21
    go_wp2
    go_ret
    exact ⟨rfl, rfl⟩

theorem brk_nel_end (g n c i : Nat) (w : World) (hi : i < n) (hi' : ¬ i + 1 < n) (hs : n ≤ 16777216) (hx : w.cell? ⟨g, i, none⟩ = some (.int .u8 194)) :
    Calls Try.prog 21 #[.slice (some ⟨g, 0, none⟩) n c, .int .i64 i] w fun e w' => e = .returned (.int .i64 0) ∧ w' = w := by
  go_enter Try.func21, Try.ntmps21
  go_wp2
  go_ret
  exact ⟨rfl, rfl⟩

theorem brk_none (g n c i : Nat) (w : World) (x : Int) (hi : i < n) (hs : n ≤ 16777216) (hx : w.cell? ⟨g, i, none⟩ = some (.int .u8 x)) (h1 : (x == 10) = false) (h2 : (x == 13) = false) (h3 : (x == 194) = false) (h4 : (x == 226) = false) :
    Calls Try.prog 21 #[.slice (some ⟨g, 0, none⟩) n c, .int .i64 i] w fun e w' => e = .returned (.int .i64 0) ∧ w' = w := by
  go_enter Try.func21, Try.ntmps21
  go_wp2
  go_ret
  exact ⟨rfl, rfl⟩

theorem brk_e2_short (g n c i : Nat) (w : World) (hi : i < n) (hi' : n < i + 3) (hnc : n ≤ c) (hs : n ≤ 16777216) (hx : w.cell? ⟨g, i, none⟩ = some (.int .u8 226)) :
    Calls Try.prog 21 #[.slice (some ⟨g, 0, none⟩) n c, .int .i64 i] w fun e w' => e = .returned (.int .i64 0) ∧ Below w.heap.size w w' := by
  have kc := conv_const
  have hci : ¬ c = i := by omega
  go_enter Try.func21, Try.ntmps21
  go_wp2_with (go_at_call 23; refine (has_short _ _ _ _ _ (by omega)).mono ?_; rintro e w' ⟨rfl, rfl⟩)
  go_ret
  exact ⟨rfl, ((Below.refl _ _).alloc (Nat.le_refl _) _).alloc (by simp) _⟩

theorem has_lit2 (b1 o1 n c : Nat) (x0 x1 x2 y0 y1 y2 : Int) (w : World) (o : Obj) (v : Bool) (hnc : n ≤ c) (h3 : 3 ≤ n)
    (hx0 : w.cell? ⟨b1, o1, none⟩ = some (.int .u8 x0)) (hx1 : w.cell? ⟨b1, o1 + 1, none⟩ = some (.int .u8 x1)) (hx2 : w.cell? ⟨b1, o1 + 2, none⟩ = some (.int .u8 x2))
    (h0 : 0 ≤ x0 ∧ x0 ≤ 255) (h1 : 0 ≤ x1 ∧ x1 ≤ 255) (h2 : 0 ≤ x2 ∧ x2 ≤ 255) (k0 : 0 ≤ y0 ∧ y0 ≤ 255) (k1 : 0 ≤ y1 ∧ y1 ≤ 255) (k2 : 0 ≤ y2 ∧ y2 ≤ 255)
    (hv : decide (x0 = y0 ∧ x1 = y1 ∧ x2 = y2) = v) :
    Calls Try.prog 23 #[.slice (some ⟨b1, o1, none⟩) n c, .slice (some ⟨w.heap.size + 1, 0, none⟩) 3 3] ((w.alloc o).alloc (.cells #[.int .u8 y0, .int .u8 y1, .int .u8 y2] 5 (3, 4)))
      fun e w' => e = .returned (.bool v) ∧ w' = (w.alloc o).alloc (.cells #[.int .u8 y0, .int .u8 y1, .int .u8 y2] 5 (3, 4)) := by
  have h := has_lit b1 o1 n c x0 x1 x2 y0 y1 y2 (w.alloc o) v hnc h3 (Lib.cell?_alloc_marked _ hx0) (Lib.cell?_alloc_marked _ hx1) (Lib.cell?_alloc_marked _ hx2) h0 h1 h2 k0 k1 k2 hv
  rw [World.size_alloc] at h
  exact h

theorem brk_e2 (g n c i : Nat) (w : World) (y z : Int) (hi : i + 2 < n) (hnc : n ≤ c) (hs : n ≤ 16777216) (hx : w.cell? ⟨g, i, none⟩ = some (.int .u8 226))
    (hy : w.cell? ⟨g, i + 1, none⟩ = some (.int .u8 y)) (hz : w.cell? ⟨g, i + 2, none⟩ = some (.int .u8 z)) (by' : 0 ≤ y ∧ y ≤ 255) (bz : 0 ≤ z ∧ z ≤ 255) :
    Calls Try.prog 21 #[.slice (some ⟨g, 0, none⟩) n c, .int .i64 i] w fun e w' => e = .returned (.int .i64 (if y = 128 ∧ (z = 168 ∨ z = 169) then 3 else 0)) ∧ Below w.heap.size w w' := by
  have kc := conv_const
  have hci : ¬ c = i := by omega
  by_cases h1 : y = 128 ∧ z = 168
  · rw [if_pos (by omega)]
    go_enter Try.func21, Try.ntmps21
    go_wp2_with (go_at_call 23; refine (has_lit g i (n - i) (c - i) 226 y z 226 128 168 _ true (by omega) (by omega) hx hy hz (by omega) by' bz (by omega) (by omega) (by omega) (by simpa using h1)).mono ?_; rintro e w' ⟨rfl, rfl⟩)
    go_ret
    exact ⟨rfl, ((Below.refl _ _).alloc (Nat.le_refl _) _)⟩
  · by_cases h2 : y = 128 ∧ z = 169
    · rw [if_pos (by omega)]
      go_enter Try.func21, Try.ntmps21
      go_wp2_with fail
      refine (has_lit g i (n - i) (c - i) 226 y z 226 128 168 w false (by omega) (by omega) hx hy hz (by omega) by' bz (by omega) (by omega) (by omega) (by simpa using h1)).mono ?_
      rintro e w' ⟨rfl, rfl⟩
      go_wp2_with fail
      refine (has_lit2 g i (n - i) (c - i) 226 y z 226 128 169 w _ true (by omega) (by omega) hx hy hz (by omega) by' bz (by omega) (by omega) (by omega) (by simpa using h2)).mono ?_
      rintro e w' ⟨rfl, rfl⟩
      go_wp2
      go_ret
      exact ⟨rfl, ((Below.refl _ _).alloc (Nat.le_refl _) _).alloc (by simp) _⟩
    · rw [if_neg (by omega)]
      go_enter Try.func21, Try.ntmps21
      go_wp2_with fail
      refine (has_lit g i (n - i) (c - i) 226 y z 226 128 168 w false (by omega) (by omega) hx hy hz (by omega) by' bz (by omega) (by omega) (by omega) (by simpa using h1)).mono ?_
      rintro e w' ⟨rfl, rfl⟩
      go_wp2_with fail
      refine (has_lit2 g i (n - i) (c - i) 226 y z 226 128 169 w _ false (by omega) (by omega) hx hy hz (by omega) by' bz (by omega) (by omega) (by omega) (by simpa using h2)).mono ?_
      rintro e w' ⟨rfl, rfl⟩
      go_wp2
      go_ret
      exact ⟨rfl, ((Below.refl _ _).alloc (Nat.le_refl _) _).alloc (by simp) _⟩

theorem ret_i64 {a b : Int} (h : a = b) : Ending.returned (.int .i64 a) = .returned (.int .i64 b) := by rw [h]

theorem breakAt_any (g n c i : Nat) (f : Nat → Int) (w : World) (T : Text w g n c f) (hi : i < n) :
    Calls Try.prog 21 #[.slice (some ⟨g, 0, none⟩) n c, .int .i64 i] w fun e w' => e = .returned (.int .i64 (brk f i : Nat)) ∧ Below w.heap.size w w' := by
  have hx := T.cell i hi
  have hs := T.small
  have hnc := T.cap
  by_cases h10 : f i = 10
  · rw [h10] at hx
    refine (brk_lf g n c i w hi hs hx).mono ?_
    rintro e w' ⟨rfl, hw⟩
    subst hw
    exact ⟨ret_i64 (by simp [brk, h10]), Below.refl _ _⟩
  by_cases h13 : f i = 13
  · rw [h13] at hx
    by_cases hi' : i + 1 < n
    · have hy := T.cell (i + 1) hi'
      by_cases hlf : f (i + 1) = 10
      · rw [hlf] at hy
        refine (brk_crlf g n c i w hi' hs hx hy).mono ?_
        rintro e w' ⟨rfl, hw⟩
        subst hw
        exact ⟨ret_i64 (by simp [brk, h13, hlf]), Below.refl _ _⟩
      · refine (brk_cr_not g n c i w _ hi' hs hx hy (by simpa using hlf)).mono ?_
        rintro e w' ⟨rfl, hw⟩
        subst hw
        exact ⟨ret_i64 (by simp [brk, h13, hlf]), Below.refl _ _⟩
    · have hp := T.past (i + 1) (by omega)
      refine (brk_cr_end g n c i w hi hi' hs hx).mono ?_
      rintro e w' ⟨rfl, hw⟩
      subst hw
      exact ⟨ret_i64 (by simp [brk, h13, hp]), Below.refl _ _⟩
  by_cases h194 : f i = 194
  · rw [h194] at hx
    by_cases hi' : i + 1 < n
    · refine (brk_nel g n c i w _ hi' hs hx (T.cell (i + 1) hi')).mono ?_
      rintro e w' ⟨rfl, hw⟩
      subst hw
      refine ⟨ret_i64 ?_, Below.refl _ _⟩
      by_cases h : f (i + 1) = 133 <;> simp [brk, h194, h]
    · have hp := T.past (i + 1) (by omega)
      refine (brk_nel_end g n c i w hi hi' hs hx).mono ?_
      rintro e w' ⟨rfl, hw⟩
      subst hw
      exact ⟨ret_i64 (by simp [brk, h194, hp]), Below.refl _ _⟩
  by_cases h226 : f i = 226
  · rw [h226] at hx
    by_cases hi' : i + 2 < n
    · refine (brk_e2 g n c i w _ _ hi' hnc hs hx (T.cell (i + 1) (by omega)) (T.cell (i + 2) hi') (T.byte _) (T.byte _)).mono ?_
      rintro e w' ⟨rfl, hw⟩
      refine ⟨ret_i64 ?_, hw⟩
      by_cases h : f (i + 1) = 128 ∧ (f (i + 2) = 168 ∨ f (i + 2) = 169)
      · rw [if_pos h]; simp [brk, h226, h]
      · rw [if_neg h]; simp [brk, h226, h]
    · have hp := T.past (i + 2) (by omega)
      refine (brk_e2_short g n c i w hi (by omega) hnc hs hx).mono ?_
      rintro e w' ⟨rfl, hw⟩
      exact ⟨ret_i64 (by simp [brk, h226, hp]), hw⟩
  · refine (brk_none g n c i w _ hi hs hx (by simpa using h10) (by simpa using h13) (by simpa using h194) (by simpa using h226)).mono ?_
    rintro e w' ⟨rfl, hw⟩
    subst hw
    exact ⟨ret_i64 (by simp [brk, h10, h13, h194, h226]), Below.refl _ _⟩

end Go.Proofs.Qxb6617877a
