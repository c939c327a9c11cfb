/-
  zzFirstStartB1 (function 10), zzLineEndsAtB1 (11), and the plain facts on which both looking loops go.
-/
import Derived.Test.Qxb6617877aPrep
namespace Go.Proofs.Qxb6617877a
open Go.RowKit Plain
set_option linter.unusedVariables false

/-! ### the plain facts -/
theorem tail_prefix (f : Nat → Int) (p n : Nat) (h : p ≤ n) : ∃ r, tail f n = tail f p ++ r := by
  induction n with
  | zero => exact ⟨[], by have : p = 0 := by omega
                          subst this; simp⟩
  | succ n ih =>
    by_cases e : p = n + 1
    · subst e; exact ⟨[], by simp⟩
    · obtain ⟨r, hr⟩ := ih (by omega)
      exact ⟨r ++ (if ends f (n + 1) = true then [((n + 1 : Nat) : Int)] else []), by simp only [tail]; rw [hr, List.append_assoc]⟩

/-- How many starts lie before place p. -/
def cnt (f : Nat → Int) (p : Nat) : Nat := 1 + (tail f (p - 1)).length

theorem cnt_one (f : Nat → Int) : cnt f 1 = 1 := by simp [cnt, tail]
theorem cnt_no (f : Nat → Int) (p : Nat) (hp : 1 ≤ p) (h : ends f p = false) : cnt f (p + 1) = cnt f p := by
  unfold cnt
  obtain ⟨q, rfl⟩ : ∃ q, p = q + 1 := ⟨p - 1, by omega⟩
  simp only [Nat.add_sub_cancel]
  rw [tail_no f q h]
theorem cnt_yes (f : Nat → Int) (p : Nat) (hp : 1 ≤ p) (h : ends f p = true) : cnt f (p + 1) = cnt f p + 1 := by
  unfold cnt
  obtain ⟨q, rfl⟩ : ∃ q, p = q + 1 := ⟨p - 1, by omega⟩
  simp only [Nat.add_sub_cancel]
  rw [tail_yes f q h]; simp; omega
theorem cnt_le (f : Nat → Int) (p : Nat) (hp : 1 ≤ p) : cnt f p ≤ p := by
  have := tail_length f (p - 1)
  unfold cnt; omega
theorem cnt_end (l : List Int) (n : Nat) : (starts l n).length = cnt (byt l) (n + 1) := by simp [starts, cnt]; omega
theorem cnt_at (l : List Int) (n p : Nat) (hp : 1 ≤ p) (hn : p ≤ n) (h : ends (byt l) p = true) : cnt (byt l) p < (starts l n).length ∧ (starts l n).getD (cnt (byt l) p) 0 = (p : Int) := by
  obtain ⟨q, rfl⟩ : ∃ q, p = q + 1 := ⟨p - 1, by omega⟩
  obtain ⟨r, hr⟩ := tail_prefix (byt l) (q + 1) n hn
  rw [tail_yes _ _ h] at hr
  have e : starts l n = (first l :: tail (byt l) q) ++ ([((q + 1 : Nat) : Int)] ++ r) := by unfold starts; rw [hr]; simp
  have c : cnt (byt l) (q + 1) = (first l :: tail (byt l) q).length := by simp [cnt]; omega
  rw [e, c]
  constructor
  · simp
  · simp only [List.getD_eq_getElem?_getD]
    rw [List.getElem?_append_right (Nat.le_refl _)]
    simp

/-! ### zzFirstStartB1 -/
theorem first_any (g n c : Nat) (f : Nat → Int) (w : World) (T : Text w g n c f) :
    Calls Try.prog 10 #[.slice (some ⟨g, 0, none⟩) n c] w fun e w' => e = .returned (.int .i64 (firstF f)) ∧ w' = w := by
  have hs := T.small
  by_cases h3 : 3 ≤ n
  · have c0 := T.cell 0 (by omega)
    have c1 := T.cell 1 (by omega)
    have c2 := T.cell 2 (by omega)
    unfold firstF
    by_cases e0 : f 0 = 239
    · by_cases e1 : f 1 = 187
      · by_cases e2 : f 2 = 191
        · rw [if_pos ⟨e0, e1, e2⟩]
          rw [e0] at c0; rw [e1] at c1; rw [e2] at c2
          clear T e0 e1 e2
          go_enter Try.func10, Try.ntmps10
          go_wp2
          go_ret
          exact ⟨rfl, rfl⟩
        · rw [if_neg (by omega)]
          rw [e0] at c0; rw [e1] at c1
          have e2' : (f 2 == 191) = false := by simpa using e2
          clear T e0 e1 e2
          go_enter Try.func10, Try.ntmps10
          go_wp2
          go_ret
          exact ⟨rfl, rfl⟩
      · rw [if_neg (by omega)]
        rw [e0] at c0
        have e1' : (f 1 == 187) = false := by simpa using e1
        clear T e0 e1
        go_enter Try.func10, Try.ntmps10
        go_wp2
        go_ret
        exact ⟨rfl, rfl⟩
    · rw [if_neg (by omega)]
      have e0' : (f 0 == 239) = false := by simpa using e0
      clear T e0
      go_enter Try.func10, Try.ntmps10
      go_wp2
      go_ret
      exact ⟨rfl, rfl⟩
  · have h2 := T.past 2 (by omega)
    have hz : ¬ ((3 : Int) ≤ (n : Int)) := by omega
    unfold firstF
    rw [if_neg (by omega)]
    clear T h2
    go_enter Try.func10, Try.ntmps10
    go_wp2
    go_ret
    exact ⟨rfl, rfl⟩

theorem first_nil (w : World) : Calls Try.prog 10 #[.slice none 0 0] w fun e w' => e = .returned (.int .i64 0) ∧ w' = w := by
  go_enter Try.func10, Try.ntmps10
  go_wp2
  go_ret
  exact ⟨rfl, rfl⟩

theorem first_prep (B : Nat) (w : World) (ao : Option Addr) (c n : Nat) (l : List Int) (P : Prep B w ao c l) (hn : l.length = n) (v : Int) (hv : first l = v) :
    Calls Try.prog 10 #[.slice ao n c] w fun e w' => e = .returned (.int .i64 v) ∧ w' = w := by
  subst hn hv
  rcases P with ⟨rfl, rfl, rfl⟩ | ⟨g, rfl, _, T⟩
  · exact first_nil w
  · exact first_any g _ _ _ w T

/-! ### zzLineEndsAtB1 -/
theorem ends_lf (g n c p : Nat) (w : World) (hp : 1 ≤ p) (hn : p ≤ n) (hs : n ≤ 16777216) (h1 : w.cell? ⟨g, p - 1, none⟩ = some (.int .u8 10)) :
    Calls Try.prog 11 #[.slice (some ⟨g, 0, none⟩) n c, .int .i64 p] w fun e w' => e = .returned (.bool true) ∧ w = w' := by
  go_enter Try.func11, Try.ntmps11
  go_wp2
  go_ret
  exact ⟨rfl, rfl⟩

theorem ends_cr_end (g n c : Nat) (w : World) (hp : 1 ≤ n) (hs : n ≤ 16777216) (h1 : w.cell? ⟨g, n - 1, none⟩ = some (.int .u8 13)) :
    Calls Try.prog 11 #[.slice (some ⟨g, 0, none⟩) n c, .int .i64 n] w fun e w' => e = .returned (.bool true) ∧ w = w' := by
  go_enter Try.func11, Try.ntmps11
  go_wp2
  go_ret
  exact ⟨rfl, rfl⟩

theorem ends_cr (g n c p : Nat) (w : World) (y : Int) (hp : 1 ≤ p) (hn : p < n) (hs : n ≤ 16777216) (h1 : w.cell? ⟨g, p - 1, none⟩ = some (.int .u8 13)) (h0 : w.cell? ⟨g, p, none⟩ = some (.int .u8 y)) :
    Calls Try.prog 11 #[.slice (some ⟨g, 0, none⟩) n c, .int .i64 p] w fun e w' => e = .returned (.bool (y != 10)) ∧ w = w' := by
  have hne : ((p : Int) == (n : Int)) = false := by simp; omega
  go_enter Try.func11, Try.ntmps11
  go_wp2
  go_ret
  exact ⟨rfl, rfl⟩

set_option maxHeartbeats 1000000 in
theorem ends_other (g n c p : Nat) (w : World) (x y z : Int) (b : Bool) (hp : 1 ≤ p) (hn : p ≤ n) (hs : n ≤ 16777216) (h1 : w.cell? ⟨g, p - 1, none⟩ = some (.int .u8 x)) (n10 : (x == 10) = false) (n13 : (x == 13) = false)
    (h2 : 2 ≤ p → w.cell? ⟨g, p - 2, none⟩ = some (.int .u8 y)) (h3 : 3 ≤ p → w.cell? ⟨g, p - 3, none⟩ = some (.int .u8 z))
    (hb : b = decide ((2 ≤ p ∧ y = 194 ∧ x = 133) ∨ (3 ≤ p ∧ z = 226 ∧ y = 128 ∧ (x = 168 ∨ x = 169)))) :
    Calls Try.prog 11 #[.slice (some ⟨g, 0, none⟩) n c, .int .i64 p] w fun e w' => e = .returned (.bool b) ∧ w = w' := by
  by_cases p1 : p = 1
  · subst p1
    obtain rfl : b = false := by rw [hb]; simp
    clear h2 h3 hb
    go_enter Try.func11, Try.ntmps11
    go_wp2
    go_ret
    exact ⟨rfl, rfl⟩
  have c2 := h2 (by omega)
  by_cases p2 : p = 2
  · subst p2
    clear h2 h3
    by_cases hy : y = 194
    · subst hy
      by_cases hx : x = 133
      · subst hx
        obtain rfl : b = true := by rw [hb]; simp
        clear hb
        go_enter Try.func11, Try.ntmps11
        go_wp2
        go_ret
        exact ⟨rfl, rfl⟩
      · obtain rfl : b = false := by rw [hb]; simp [hx]
        have hx' : (x == 133) = false := by simpa using hx
        clear hb
        go_enter Try.func11, Try.ntmps11
        go_wp2
        go_ret
        exact ⟨rfl, rfl⟩
    · obtain rfl : b = false := by rw [hb]; simp [hy]
      have hy' : (y == 194) = false := by simpa using hy
      clear hb
      go_enter Try.func11, Try.ntmps11
      go_wp2
      go_ret
      exact ⟨rfl, rfl⟩
  have c3 := h3 (by omega)
  have g2 : (2 : Int) ≤ (p : Int) := by omega
  have g3 : (3 : Int) ≤ (p : Int) := by omega
  clear h2 h3
  by_cases hy : y = 194
  · subst hy
    by_cases hx : x = 133
    · subst hx
      obtain rfl : b = true := by rw [hb]; simp; omega
      clear hb
      go_enter Try.func11, Try.ntmps11
      go_wp2
      go_ret
      exact ⟨rfl, rfl⟩
    · obtain rfl : b = false := by rw [hb]; simp [hx]
      have hx' : (x == 133) = false := by simpa using hx
      clear hb
      by_cases hz : z = 226
      · subst hz
        go_enter Try.func11, Try.ntmps11
        go_wp2
        go_ret
        exact ⟨rfl, rfl⟩
      · have hz' : (z == 226) = false := by simpa using hz
        go_enter Try.func11, Try.ntmps11
        go_wp2
        go_ret
        exact ⟨rfl, rfl⟩
  have hy' : (y == 194) = false := by simpa using hy
  by_cases hz : z = 226
  · subst hz
    by_cases hy8 : y = 128
    · subst hy8
      by_cases hx8 : x = 168
      · subst hx8
        obtain rfl : b = true := by rw [hb]; simp; omega
        clear hb
        go_enter Try.func11, Try.ntmps11
        go_wp2
        go_ret
        exact ⟨rfl, rfl⟩
      have hx8' : (x == 168) = false := by simpa using hx8
      by_cases hx9 : x = 169
      · subst hx9
        obtain rfl : b = true := by rw [hb]; simp; omega
        clear hb
        go_enter Try.func11, Try.ntmps11
        go_wp2
        go_ret
        exact ⟨rfl, rfl⟩
      have hx9' : (x == 169) = false := by simpa using hx9
      obtain rfl : b = false := by rw [hb]; simp [hx8, hx9]
      clear hb
      go_enter Try.func11, Try.ntmps11
      go_wp2
      go_ret
      exact ⟨rfl, rfl⟩
    · have hy8' : (y == 128) = false := by simpa using hy8
      obtain rfl : b = false := by rw [hb]; simp [hy, hy8]
      clear hb
      go_enter Try.func11, Try.ntmps11
      go_wp2
      go_ret
      exact ⟨rfl, rfl⟩
  · have hz' : (z == 226) = false := by simpa using hz
    obtain rfl : b = false := by rw [hb]; simp [hy, hz]
    clear hb
    go_enter Try.func11, Try.ntmps11
    go_wp2
    go_ret
    exact ⟨rfl, rfl⟩

theorem ret_bool {a b : Bool} (h : a = b) : Ending.returned (.bool a) = .returned (.bool b) := by rw [h]

theorem ends_any (g n c p : Nat) (f : Nat → Int) (w : World) (T : Text w g n c f) (hp : 1 ≤ p) (hn : p ≤ n) :
    Calls Try.prog 11 #[.slice (some ⟨g, 0, none⟩) n c, .int .i64 p] w fun e w' => e = .returned (.bool (ends f p)) ∧ w = w' := by
  have c1 := T.cell (p - 1) (by omega)
  have hs := T.small
  by_cases h10 : f (p - 1) = 10
  · rw [h10] at c1
    refine (ends_lf g n c p w hp hn hs c1).mono ?_
    rintro e w' ⟨rfl, hw⟩
    exact ⟨ret_bool (by simp [ends, h10]), hw⟩
  by_cases h13 : f (p - 1) = 13
  · rw [h13] at c1
    by_cases he : p = n
    · subst he
      have hz := T.past p (Nat.le_refl _)
      refine (ends_cr_end g p c w hp hs c1).mono ?_
      rintro e w' ⟨rfl, hw⟩
      exact ⟨ret_bool (by simp [ends, h13, hz]), hw⟩
    · refine (ends_cr g n c p w _ hp (by omega) hs c1 (T.cell p (by omega))).mono ?_
      rintro e w' ⟨rfl, hw⟩
      exact ⟨ret_bool (by simp [ends, h13]; rw [Bool.eq_iff_iff]; simp), hw⟩
  · refine (ends_other g n c p w _ (f (p - 2)) (f (p - 3)) (ends f p) hp hn hs c1 (by simpa using h10) (by simpa using h13) (fun h => T.cell (p - 2) (by omega)) (fun h => T.cell (p - 3) (by omega)) ?_)
    unfold ends
    simp [h10, h13]

end Go.Proofs.Qxb6617877a
