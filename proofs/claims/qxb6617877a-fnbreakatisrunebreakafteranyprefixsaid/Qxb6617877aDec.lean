/-
  zzDecodeB1 (function 20), zzBreakModelB1 (14), ZZbreakAt (15): the rune-wise model answers 'brk f i'.
-/
import Derived.Test.Qxb6617877aPrep
namespace Go.Proofs.Qxb6617877a
open Go.RowKit Plain
set_option linter.unusedVariables false

theorem wrap_i64_nat (n : Nat) (h : n < 9223372036854775808) : IntKind.i64.wrap (n : Int) = (n : Int) := by
  have e : (n : Int) % 2 ^ 64 = n := Int.emod_eq_of_lt (by omega) (by omega)
  simp only [IntKind.wrap, IntKind.bits, IntKind.signed, e]
  rw [if_neg]
  simp
  omega

theorem or_join_nat (i a b : Nat) (ha : a % 2 ^ i = 0) (hb : b < 2 ^ i) (h1 : a + b < 9223372036854775808) : bits .or .i64 (a : Int) (b : Int) = ((a + b : Nat) : Int) := by
  show IntKind.i64.wrap ((BitVec.ofInt 64 (a : Int) ||| BitVec.ofInt 64 (b : Int)).toNat : Int) = _
  rw [BitVec.toNat_or, ofInt_u64 a (by omega), ofInt_u64 b (by omega), nat_join i a b ha hb]
  exact wrap_i64_nat _ h1

theorem or_two (x y : Int) (hx : 0 ≤ x) (hx' : x ≤ 255) (hy : 0 ≤ y) : bits .or .i64 (x % 32 * 64) (y % 64) = x % 32 * 64 + y % 64 := by
  obtain ⟨X, rfl⟩ := Int.eq_ofNat_of_zero_le hx
  obtain ⟨Y, rfl⟩ := Int.eq_ofNat_of_zero_le hy
  have e := or_join_nat 6 (X % 32 * 64) (Y % 64) (by omega) (by omega) (by omega)
  have e1 : ((X % 32 * 64 : Nat) : Int) = (X : Int) % 32 * 64 := by omega
  have e2 : ((Y % 64 : Nat) : Int) = (Y : Int) % 64 := by omega
  rw [Int.natCast_add, e1, e2] at e
  exact e

theorem or_three (x y z : Int) (hx : 0 ≤ x) (hx' : x ≤ 255) (hy : 0 ≤ y) (hz : 0 ≤ z) : bits .or .i64 (bits .or .i64 (x % 16 * 4096) (y % 64 * 64)) (z % 64) = x % 16 * 4096 + y % 64 * 64 + z % 64 := by
  obtain ⟨X, rfl⟩ := Int.eq_ofNat_of_zero_le hx
  obtain ⟨Y, rfl⟩ := Int.eq_ofNat_of_zero_le hy
  obtain ⟨Z, rfl⟩ := Int.eq_ofNat_of_zero_le hz
  have e := or_join_nat 12 (X % 16 * 4096) (Y % 64 * 64) (by omega) (by omega) (by omega)
  have f := or_join_nat 6 (X % 16 * 4096 + Y % 64 * 64) (Z % 64) (by omega) (by omega) (by omega)
  have e1 : ((X % 16 * 4096 : Nat) : Int) = (X : Int) % 16 * 4096 := by omega
  have e2 : ((Y % 64 * 64 : Nat) : Int) = (Y : Int) % 64 * 64 := by omega
  have e3 : ((Z % 64 : Nat) : Int) = (Z : Int) % 64 := by omega
  rw [Int.natCast_add, e1, e2] at e
  rw [Int.natCast_add, Int.natCast_add, e1, e2, e3] at f
  rw [e]
  exact f

theorem ret_pair {a b c d : Int} (h : a = b) (k : c = d) : Ending.returned (.tuple #[.int .i64 a, .int .i64 c]) = .returned (.tuple #[.int .i64 b, .int .i64 d]) := by rw [h, k]

theorem dec_one (g n c i : Nat) (w : World) (x : Int) (hi : i < n) (hs : n ≤ 16777216) (hx : w.cell? ⟨g, i, none⟩ = some (.int .u8 x)) (x0 : 0 ≤ x) (x1 : x < 128) :
    Calls Try.prog 20 #[.slice (some ⟨g, 0, none⟩) n c, .int .i64 i] w fun e w' => e = .returned (.tuple #[.int .i64 x, .int .i64 1]) ∧ w = w' := by
  go_enter Try.func20, Try.ntmps20
  go_wp2
  go_ret2
  exact ⟨rfl, rfl⟩

theorem dec_two (g n c i : Nat) (w : World) (x y : Int) (hi : i + 1 < n) (hs : n ≤ 16777216) (hx : w.cell? ⟨g, i, none⟩ = some (.int .u8 x)) (hy : w.cell? ⟨g, i + 1, none⟩ = some (.int .u8 y))
    (x1 : 194 ≤ x) (x2 : x ≤ 223) (y1 : 128 ≤ y) (y2 : y ≤ 191) :
    Calls Try.prog 20 #[.slice (some ⟨g, 0, none⟩) n c, .int .i64 i] w fun e w' => e = .returned (.tuple #[.int .i64 ((x - 192) * 64 + (y - 128)), .int .i64 2]) ∧ w = w' := by
  go_enter Try.func20, Try.ntmps20
  go_wp2
  go_ret2
  exact ⟨ret_pair (by rw [or_two x y (by omega) (by omega) (by omega)]; omega) rfl, rfl⟩

theorem dec_two_end (g n c i : Nat) (w : World) (x : Int) (hi : i < n) (hi' : ¬ i + 1 < n) (hs : n ≤ 16777216) (hx : w.cell? ⟨g, i, none⟩ = some (.int .u8 x)) (x1 : 194 ≤ x) (x2 : x ≤ 223) :
    Calls Try.prog 20 #[.slice (some ⟨g, 0, none⟩) n c, .int .i64 i] w fun e w' => e = .returned (.tuple #[.int .i64 0, .int .i64 0]) ∧ w = w' := by
  go_enter Try.func20, Try.ntmps20
  go_wp2
  all_goals (go_ret2; exact ⟨rfl, rfl⟩)

theorem dec_two_bad (g n c i : Nat) (w : World) (x y : Int) (hi : i + 1 < n) (hs : n ≤ 16777216) (hx : w.cell? ⟨g, i, none⟩ = some (.int .u8 x)) (hy : w.cell? ⟨g, i + 1, none⟩ = some (.int .u8 y))
    (x1 : 194 ≤ x) (x2 : x ≤ 223) (hb : y < 128 ∨ 191 < y) :
    Calls Try.prog 20 #[.slice (some ⟨g, 0, none⟩) n c, .int .i64 i] w fun e w' => e = .returned (.tuple #[.int .i64 0, .int .i64 0]) ∧ w = w' := by
  rcases hb with hb | hb
  · go_enter Try.func20, Try.ntmps20
    go_wp2
    all_goals (go_ret2; exact ⟨rfl, rfl⟩)
  · have hb' : ¬ y < 128 := by omega
    go_enter Try.func20, Try.ntmps20
    go_wp2
    all_goals (go_ret2; exact ⟨rfl, rfl⟩)

theorem dec_other (g n c i : Nat) (w : World) (x : Int) (hi : i < n) (hs : n ≤ 16777216) (hx : w.cell? ⟨g, i, none⟩ = some (.int .u8 x)) (h : (128 ≤ x ∧ x < 194) ∨ 239 < x) :
    Calls Try.prog 20 #[.slice (some ⟨g, 0, none⟩) n c, .int .i64 i] w fun e w' => e = .returned (.tuple #[.int .i64 0, .int .i64 0]) ∧ w = w' := by
  rcases h with ⟨h1, h2⟩ | h
  · go_enter Try.func20, Try.ntmps20
    go_wp2
    all_goals (go_ret2; exact ⟨rfl, rfl⟩)
  · go_enter Try.func20, Try.ntmps20
    go_wp2
    all_goals (go_ret2; exact ⟨rfl, rfl⟩)

theorem dec_three_end (g n c i : Nat) (w : World) (x : Int) (hi : i < n) (hi' : ¬ i + 2 < n) (hs : n ≤ 16777216) (hx : w.cell? ⟨g, i, none⟩ = some (.int .u8 x)) (x1 : 224 ≤ x) (x2 : x ≤ 239) :
    Calls Try.prog 20 #[.slice (some ⟨g, 0, none⟩) n c, .int .i64 i] w fun e w' => e = .returned (.tuple #[.int .i64 0, .int .i64 0]) ∧ w = w' := by
  go_enter Try.func20, Try.ntmps20
  go_wp2
  all_goals (go_ret2; exact ⟨rfl, rfl⟩)

set_option maxHeartbeats 1000000 in
theorem dec_three_ok (g n c i : Nat) (w : World) (x y z : Int) (hi : i + 2 < n) (hs : n ≤ 16777216) (hx : w.cell? ⟨g, i, none⟩ = some (.int .u8 x)) (hy : w.cell? ⟨g, i + 1, none⟩ = some (.int .u8 y)) (hz : w.cell? ⟨g, i + 2, none⟩ = some (.int .u8 z))
    (x1 : 224 ≤ x) (x2 : x ≤ 239) (y0 : 0 ≤ y) (z0 : 0 ≤ z) (h : 128 ≤ y ∧ y ≤ 191 ∧ 128 ≤ z ∧ z ≤ 191 ∧ (x = 224 → 160 ≤ y) ∧ (x = 237 → y ≤ 159)) :
    Calls Try.prog 20 #[.slice (some ⟨g, 0, none⟩) n c, .int .i64 i] w fun e w' => e = .returned (.tuple #[.int .i64 ((x - 224) * 4096 + (y - 128) * 64 + (z - 128)), .int .i64 3]) ∧ w = w' := by
  obtain ⟨y1, y2, z1, z2, h24, h37⟩ := h
  by_cases e24 : x = 224
  · subst e24
    have y3 := h24 rfl
    clear h24 h37
    go_enter Try.func20, Try.ntmps20
    go_wp2
    go_ret2
    exact ⟨ret_pair (by have o := or_three 224 y z (by omega) (by omega) (by omega) (by omega); rw [show (224 : Int) % 16 * 4096 = 0 by decide] at o; rw [o]; omega) rfl, rfl⟩
  · by_cases e37 : x = 237
    · subst e37
      have y3 := h37 rfl
      clear h24 h37
      go_enter Try.func20, Try.ntmps20
      go_wp2
      go_ret2
      exact ⟨ret_pair (by have o := or_three 237 y z (by omega) (by omega) (by omega) (by omega); rw [show (237 : Int) % 16 * 4096 = 53248 by decide] at o; rw [o]; omega) rfl, rfl⟩
    · have f24 : (x == 224) = false := by simpa using e24
      have f37 : (x == 237) = false := by simpa using e37
      clear h24 h37
      go_enter Try.func20, Try.ntmps20
      go_wp2
      go_ret2
      exact ⟨ret_pair (by rw [or_three x y z (by omega) (by omega) (by omega) (by omega)]; omega) rfl, rfl⟩

set_option maxHeartbeats 1000000 in
theorem dec_three_bad (g n c i : Nat) (w : World) (x y z : Int) (hi : i + 2 < n) (hs : n ≤ 16777216) (hx : w.cell? ⟨g, i, none⟩ = some (.int .u8 x)) (hy : w.cell? ⟨g, i + 1, none⟩ = some (.int .u8 y)) (hz : w.cell? ⟨g, i + 2, none⟩ = some (.int .u8 z))
    (x1 : 224 ≤ x) (x2 : x ≤ 239) (y0 : 0 ≤ y) (z0 : 0 ≤ z) (h : ¬ (128 ≤ y ∧ y ≤ 191 ∧ 128 ≤ z ∧ z ≤ 191 ∧ (x = 224 → 160 ≤ y) ∧ (x = 237 → y ≤ 159))) :
    Calls Try.prog 20 #[.slice (some ⟨g, 0, none⟩) n c, .int .i64 i] w fun e w' => e = .returned (.tuple #[.int .i64 0, .int .i64 0]) ∧ w = w' := by
  by_cases e24 : x = 224
  · subst e24
    have HN : Hid (y < 160 ∨ 191 < y ∨ z < 128 ∨ 191 < z) := by show y < 160 ∨ _; omega
    clear h
    go_enter Try.func20, Try.ntmps20
    go_wp2
    all_goals (go_ret2; first | exact ⟨rfl, rfl⟩ | (exfalso; have := HN.out; omega))
  · by_cases e37 : x = 237
    · subst e37
      have HN : Hid (y < 128 ∨ 159 < y ∨ z < 128 ∨ 191 < z) := by show y < 128 ∨ _; omega
      clear h
      go_enter Try.func20, Try.ntmps20
      go_wp2
      all_goals (go_ret2; first | exact ⟨rfl, rfl⟩ | (exfalso; have := HN.out; omega))
    · have f24 : (x == 224) = false := by simpa using e24
      have f37 : (x == 237) = false := by simpa using e37
      have HN : Hid (y < 128 ∨ 191 < y ∨ z < 128 ∨ 191 < z) := by show y < 128 ∨ _; omega
      clear h
      go_enter Try.func20, Try.ntmps20
      go_wp2
      all_goals (go_ret2; first | exact ⟨rfl, rfl⟩ | (exfalso; have := HN.out; omega))

theorem model_crlf (g n c i : Nat) (w : World) (hi : i + 1 < n) (hs : n ≤ 16777216) (hx : w.cell? ⟨g, i, none⟩ = some (.int .u8 13)) (hy : w.cell? ⟨g, i + 1, none⟩ = some (.int .u8 10)) :
    Calls Try.prog 14 #[.slice (some ⟨g, 0, none⟩) n c, .int .i64 i] w fun e w' => e = .returned (.int .i64 2) ∧ w = w' := by
  go_enter Try.func14, Try.ntmps14
  go_wp2_with fail
  go_ret
  exact ⟨rfl, rfl⟩

/-- The rune and its length are known, and no CR LF begins there. -/
theorem model_rest (g n c i : Nat) (w : World) (x r m v : Int) (hv : v = if m ≠ 0 ∧ (r = 10 ∨ r = 13 ∨ r = 133 ∨ r = 8232 ∨ r = 8233) then m else 0) (hi : i < n) (hs : n ≤ 16777216) (hx : w.cell? ⟨g, i, none⟩ = some (.int .u8 x))
    (hd : Calls Try.prog 20 #[.slice (some ⟨g, 0, none⟩) n c, .int .i64 i] w fun e w' => e = .returned (.tuple #[.int .i64 r, .int .i64 m]) ∧ w = w')
    (h : x ≠ 13 ∨ ¬ i + 1 < n ∨ ∃ y, w.cell? ⟨g, i + 1, none⟩ = some (.int .u8 y) ∧ y ≠ 10) :
    Calls Try.prog 14 #[.slice (some ⟨g, 0, none⟩) n c, .int .i64 i] w fun e w' => e = .returned (.int .i64 v) ∧ w = w' := by
  have HD : Hid (Calls Try.prog 20 #[.slice (some ⟨g, 0, none⟩) n c, .int .i64 i] w fun e w' => e = .returned (.tuple #[.int .i64 r, .int .i64 m]) ∧ w = w') := hd
  have HV : Hid (v = if m ≠ 0 ∧ (r = 10 ∨ r = 13 ∨ r = 133 ∨ r = 8232 ∨ r = 8233) then m else 0) := hv
  clear hd hv
  have hcase : (x == 13) = false ∨ (x = 13 ∧ ¬ i + 1 < n) ∨ (x = 13 ∧ i + 1 < n ∧ ∃ y, w.cell? ⟨g, i + 1, none⟩ = some (.int .u8 y) ∧ (y == 10) = false) := by
    by_cases h13 : x = 13
    · right
      rcases h with h | h | ⟨y, h1, h2⟩
      · exact absurd h13 h
      · exact .inl ⟨h13, h⟩
      · by_cases hn : i + 1 < n
        · exact .inr ⟨h13, hn, y, h1, by simpa using h2⟩
        · exact .inl ⟨h13, hn⟩
    · left; simpa using h13
  clear h
  rcases hcase with h | ⟨rfl, h⟩ | ⟨rfl, h, y, h1, h2⟩
  all_goals
    go_enter Try.func14, Try.ntmps14
    go_wp2_with fail
    refine HD.out.mono ?_
    rintro e w' ⟨rfl, rfl⟩
    by_cases hm : m = 0
    · subst hm
      go_wp2
      go_ret
      exact ⟨ret_i64 (by rw [HV.out, if_neg (by omega)]), rfl⟩
    · have fm : (m == 0) = false := by simpa using hm
      by_cases h10 : r = 10
      · subst h10
        go_wp2
        go_ret
        exact ⟨ret_i64 (by rw [HV.out, if_pos ⟨hm, by simp⟩]), rfl⟩
      have f10 : (r == 10) = false := by simpa using h10
      by_cases h13 : r = 13
      · subst h13
        go_wp2
        go_ret
        exact ⟨ret_i64 (by rw [HV.out, if_pos ⟨hm, by simp⟩]), rfl⟩
      have f13 : (r == 13) = false := by simpa using h13
      by_cases h133 : r = 133
      · subst h133
        go_wp2
        go_ret
        exact ⟨ret_i64 (by rw [HV.out, if_pos ⟨hm, by simp⟩]), rfl⟩
      have f133 : (r == 133) = false := by simpa using h133
      by_cases h32 : r = 8232
      · subst h32
        go_wp2
        go_ret
        exact ⟨ret_i64 (by rw [HV.out, if_pos ⟨hm, by simp⟩]), rfl⟩
      have f32 : (r == 8232) = false := by simpa using h32
      by_cases h33 : r = 8233
      · subst h33
        go_wp2
        go_ret
        exact ⟨ret_i64 (by rw [HV.out, if_pos ⟨hm, by simp⟩]), rfl⟩
      have f33 : (r == 8233) = false := by simpa using h33
      go_wp2
      go_ret
      exact ⟨ret_i64 (by rw [HV.out, if_neg (by omega)]), rfl⟩

/-- zzBreakModelB1 answers 'brk f i'. -/
theorem model_any (g n c i : Nat) (f : Nat → Int) (w : World) (T : Text w g n c f) (hi : i < n) :
    Calls Try.prog 14 #[.slice (some ⟨g, 0, none⟩) n c, .int .i64 i] w fun e w' => e = .returned (.int .i64 (brk f i : Nat)) ∧ w = w' := by
  have hx := T.cell i hi
  have hs := T.small
  have b0 := T.byte i
  have b1 := T.byte (i + 1)
  have b2 := T.byte (i + 2)
  by_cases hcl : f i = 13 ∧ f (i + 1) = 10
  · have hn : i + 1 < n := by
      by_cases h : i + 1 < n
      · exact h
      · have := T.past (i + 1) (by omega); omega
    have hy := T.cell (i + 1) hn
    rw [hcl.1] at hx; rw [hcl.2] at hy
    refine (model_crlf g n c i w hn hs hx hy).mono ?_
    rintro e w' ⟨rfl, hw⟩
    exact ⟨ret_i64 (by simp [brk, hcl.1, hcl.2]), hw⟩
  have hno : f i ≠ 13 ∨ ¬ i + 1 < n ∨ ∃ y, w.cell? ⟨g, i + 1, none⟩ = some (.int .u8 y) ∧ y ≠ 10 := by
    by_cases h13 : f i = 13
    · by_cases hn : i + 1 < n
      · exact .inr (.inr ⟨_, T.cell (i + 1) hn, by omega⟩)
      · exact .inr (.inl hn)
    · exact .inl h13
  -- what the decoded rune gives
  have fin : ∀ r m : Int, (if m ≠ 0 ∧ (r = 10 ∨ r = 13 ∨ r = 133 ∨ r = 8232 ∨ r = 8233) then m else 0) = ((brk f i : Nat) : Int) →
      (Calls Try.prog 20 #[.slice (some ⟨g, 0, none⟩) n c, .int .i64 i] w fun e w' => e = .returned (.tuple #[.int .i64 r, .int .i64 m]) ∧ w = w') →
      Calls Try.prog 14 #[.slice (some ⟨g, 0, none⟩) n c, .int .i64 i] w fun e w' => e = .returned (.int .i64 (brk f i : Nat)) ∧ w = w' := by
    intro r m hr hd
    refine (model_rest g n c i w (f i) r m _ hr.symm hi hs hx hd hno).mono ?_
    rintro e w' ⟨rfl, hw⟩
    exact ⟨rfl, hw⟩
  by_cases h1 : f i < 128
  · refine fin _ _ ?_ (dec_one g n c i w (f i) hi hs hx b0.1 h1)
    by_cases h10 : f i = 10
    · simp [brk, h10]
    · by_cases h13 : f i = 13
      · have hl : f (i + 1) ≠ 10 := by omega
        simp [brk, h13, hl]
      · rw [if_neg (by omega)]
        have : brk f i = 0 := by unfold brk; rw [if_neg h10, if_neg h13, if_neg (by omega), if_neg (by omega)]
        rw [this]; rfl
  have n10 : f i ≠ 10 := by omega
  have n13 : f i ≠ 13 := by omega
  by_cases h2 : 194 ≤ f i ∧ f i ≤ 223
  · have hz : ¬ (f i = 194 ∧ f (i + 1) = 133) → ((brk f i : Nat) : Int) = 0 := by
      intro h
      have : brk f i = 0 := by unfold brk; rw [if_neg n10, if_neg n13, if_neg h, if_neg (by omega)]
      rw [this]; rfl
    by_cases hn : i + 1 < n
    · have hy := T.cell (i + 1) hn
      by_cases hb : f (i + 1) < 128 ∨ 191 < f (i + 1)
      · refine fin _ _ ?_ (dec_two_bad g n c i w (f i) _ hn hs hx hy h2.1 h2.2 hb)
        rw [if_neg (by omega), hz (by omega)]
      · refine fin _ _ ?_ (dec_two g n c i w (f i) _ hn hs hx hy h2.1 h2.2 (by omega) (by omega))
        by_cases h : f i = 194 ∧ f (i + 1) = 133
        · simp [brk, h]
        · rw [if_neg (by omega), hz h]
    · refine fin _ _ ?_ (dec_two_end g n c i w (f i) hi hn hs hx h2.1 h2.2)
      have := T.past (i + 1) (by omega)
      rw [if_neg (by omega), hz (by omega)]
  by_cases h3 : 224 ≤ f i ∧ f i ≤ 239
  · have hz : ¬ (f i = 226 ∧ f (i + 1) = 128 ∧ (f (i + 2) = 168 ∨ f (i + 2) = 169)) → ((brk f i : Nat) : Int) = 0 := by
      intro h
      have : brk f i = 0 := by unfold brk; rw [if_neg n10, if_neg n13, if_neg (by omega), if_neg h]
      rw [this]; rfl
    by_cases hn : i + 2 < n
    · have hy := T.cell (i + 1) (by omega)
      have hz' := T.cell (i + 2) hn
      by_cases hb : 128 ≤ f (i + 1) ∧ f (i + 1) ≤ 191 ∧ 128 ≤ f (i + 2) ∧ f (i + 2) ≤ 191 ∧ (f i = 224 → 160 ≤ f (i + 1)) ∧ (f i = 237 → f (i + 1) ≤ 159)
      · refine fin _ _ ?_ (dec_three_ok g n c i w (f i) _ _ hn hs hx hy hz' h3.1 h3.2 b1.1 b2.1 hb)
        by_cases h : f i = 226 ∧ f (i + 1) = 128 ∧ (f (i + 2) = 168 ∨ f (i + 2) = 169)
        · have : brk f i = 3 := (brk3 f i).2 h
          rw [this, if_pos (by omega)]; rfl
        · rw [if_neg (by omega), hz h]
      · refine fin _ _ ?_ (dec_three_bad g n c i w (f i) _ _ hn hs hx hy hz' h3.1 h3.2 b1.1 b2.1 hb)
        rw [if_neg (by omega), hz (by omega)]
    · refine fin _ _ ?_ (dec_three_end g n c i w (f i) hi hn hs hx h3.1 h3.2)
      have := T.past (i + 2) (by omega)
      rw [if_neg (by omega), hz (by omega)]
  · refine fin _ _ ?_ (dec_other g n c i w (f i) hi hs hx (by omega))
    have : brk f i = 0 := by unfold brk; rw [if_neg n10, if_neg n13, if_neg (by omega), if_neg (by omega)]
    rw [if_neg (by omega), this]; rfl

theorem zzBreakAt_any (g n c i : Nat) (f : Nat → Int) (w : World) (T : Text w g n c f) (hi : i < n) :
    Calls Try.prog 15 #[.slice (some ⟨g, 0, none⟩) n c, .int .i64 i] w fun e w' => e = .returned (.int .i64 (brk f i : Nat)) ∧ Below w.heap.size w w' := by
  go_enter Try.func15, Try.ntmps15
  go_wp2_with fail
  refine (breakAt_any g n c i f w T hi).mono ?_
  rintro e w' ⟨rfl, h⟩
  go_wp2
  go_ret
  exact ⟨rfl, h⟩

end Go.Proofs.Qxb6617877a
