/-
  THE PLAIN LAW of a placeSet: levels of words, each level above with a bit for each word below that is not 0. No Go in sight.
-/
namespace Go.Proofs.Qxb6617998a.Plain

/-- The low m bits of word j of the level above g. -/
def upTo (g : Nat → Nat) (j : Nat) : Nat → Nat
  | 0 => 0
  | m + 1 => upTo g j m + (if g (64 * j + m) ≠ 0 then 2 ^ m else 0)
def up (g : Nat → Nat) (j : Nat) : Nat := upTo g j 64

/-- Level k above f. -/
def lv (f : Nat → Nat) : Nat → Nat → Nat
  | 0 => f
  | k + 1 => up (lv f k)
/-- The length of level k. -/
def cl (L : Nat) : Nat → Nat
  | 0 => L
  | k + 1 => (cl L k + 63) / 64

theorem upTo_lt (g : Nat → Nat) (j m : Nat) : upTo g j m < 2 ^ m := by
  induction m with
  | zero => simp [upTo]
  | succ m ih => simp only [upTo, Nat.pow_succ]; split <;> omega
theorem up_lt (g : Nat → Nat) (j : Nat) : up g j < 18446744073709551616 := upTo_lt g j 64

theorem testBit_upTo (g : Nat → Nat) (j m b : Nat) : (upTo g j m).testBit b = (decide (b < m) && decide (g (64 * j + b) ≠ 0)) := by
  induction m with
  | zero => simp [upTo]
  | succ m ih =>
    simp only [upTo]
    have hlt := upTo_lt g j m
    by_cases h : g (64 * j + m) ≠ 0
    · rw [if_pos h, Nat.add_comm, show 2 ^ m + upTo g j m = 2 ^ m * 1 + upTo g j m by omega, Nat.two_pow_add_eq_or_of_lt hlt 1, Nat.testBit_or, ih, Nat.mul_one, Nat.testBit_two_pow]
      by_cases e : b = m
      · subst e; simp [h]
      · have : (b < m + 1) = (b < m) := by simp; omega
        simp [this, Ne.symm e]
    · rw [if_neg h, Nat.add_zero, ih]
      by_cases e : b = m
      · subst e; simp at h; simp [h]
      · have : (b < m + 1) = (b < m) := by simp; omega
        simp [this]

theorem upTo_congr (g h : Nat → Nat) (j m : Nat) (e : ∀ b, b < m → (g (64 * j + b) ≠ 0 ↔ h (64 * j + b) ≠ 0)) : upTo g j m = upTo h j m := by
  apply Nat.eq_of_testBit_eq
  intro b
  rw [testBit_upTo, testBit_upTo]
  by_cases hb : b < m
  · rw [decide_eq_decide.2 (e b hb)]
  · simp [hb]
theorem up_congr (g h : Nat → Nat) (j : Nat) (e : ∀ b, b < 64 → (g (64 * j + b) ≠ 0 ↔ h (64 * j + b) ≠ 0)) : up g j = up h j := upTo_congr g h j 64 e

/-- What a level above holds when the first q words below have been looked at. -/
def part (g : Nat → Nat) (q x : Nat) : Nat := upTo g x (min 64 (q - 64 * x))
theorem part_zero (g : Nat → Nat) (x : Nat) : part g 0 x = 0 := by simp [part, upTo]
theorem part_end (g : Nat → Nat) (L x : Nat) (h : ∀ i, L ≤ i → g i = 0) : part g L x = up g x := by
  unfold part up
  apply Nat.eq_of_testBit_eq
  intro b
  rw [testBit_upTo, testBit_upTo]
  by_cases hb : b < min 64 (L - 64 * x)
  · have : b < 64 := by omega
    simp [hb, this]
  · by_cases h64 : b < 64
    · have := h (64 * x + b) (by omega)
      simp [this]
    · simp [hb, h64]
theorem part_other (g : Nat → Nat) (q x : Nat) (h : x ≠ q / 64) : part g (q + 1) x = part g q x := by
  unfold part
  congr 1
  omega
theorem part_no (g : Nat → Nat) (q : Nat) (h : g q = 0) : part g (q + 1) (q / 64) = part g q (q / 64) := by
  unfold part
  have e1 : min 64 (q + 1 - 64 * (q / 64)) = q % 64 + 1 := by omega
  have e2 : min 64 (q - 64 * (q / 64)) = q % 64 := by omega
  have e3 : 64 * (q / 64) + q % 64 = q := by omega
  rw [e1, e2]
  simp only [upTo, e3, h]
  simp
theorem part_yes (g : Nat → Nat) (q : Nat) (h : g q ≠ 0) : part g (q + 1) (q / 64) = part g q (q / 64) ||| 2 ^ (q % 64) := by
  unfold part
  have e1 : min 64 (q + 1 - 64 * (q / 64)) = q % 64 + 1 := by omega
  have e2 : min 64 (q - 64 * (q / 64)) = q % 64 := by omega
  have e3 : 64 * (q / 64) + q % 64 = q := by omega
  rw [e1, e2]
  simp only [upTo, e3]
  rw [if_pos h]
  have hlt := upTo_lt g (q / 64) (q % 64)
  have := Nat.two_pow_add_eq_or_of_lt hlt 1
  rw [Nat.mul_one] at this
  rw [Nat.add_comm, this, Nat.or_comm]
theorem part_lt (g : Nat → Nat) (q x : Nat) : part g q x < 18446744073709551616 := by
  have h := upTo_lt g x (min 64 (q - 64 * x))
  have h2 : 2 ^ (min 64 (q - 64 * x)) ≤ 2 ^ 64 := Nat.pow_le_pow_right (by omega) (by omega)
  unfold part
  omega

theorem lv_zero (f : Nat → Nat) (L : Nat) (h : ∀ i, L ≤ i → f i = 0) : ∀ k i, cl L k ≤ i → lv f k i = 0 := by
  intro k
  induction k with
  | zero => exact h
  | succ k ih =>
    intro i hi
    apply Nat.eq_of_testBit_eq
    intro b
    show (upTo (lv f k) i 64).testBit b = _
    rw [testBit_upTo]
    by_cases hb : b < 64
    · have hc : cl L (k + 1) = (cl L k + 63) / 64 := rfl
      rw [hc] at hi
      rw [ih (64 * i + b) (by omega)]
      simp
    · simp [hb]
theorem lv_lt (f : Nat → Nat) (h : ∀ i, f i < 18446744073709551616) : ∀ k i, lv f k i < 18446744073709551616 := by
  intro k
  cases k with
  | zero => exact h
  | succ k => exact fun i => up_lt _ i

/-! ### taking a place out -/
def clrw (x b : Nat) : Nat := x &&& (18446744073709551615 - 2 ^ b)
def clr (f : Nat → Nat) (i x : Nat) : Nat := if x = i / 64 then clrw (f x) (i % 64) else f x

theorem clrw_lt (x b : Nat) (h : x < 18446744073709551616) : clrw x b < 18446744073709551616 := Nat.lt_of_le_of_lt Nat.and_le_left h
theorem clrw_zero (b : Nat) : clrw 0 b = 0 := by simp [clrw]
theorem testBit_clrw (x b c : Nat) (hb : b < 64) (hx : x < 18446744073709551616) : (clrw x b).testBit c = (x.testBit c && !decide (c = b)) := by
  unfold clrw
  have e : 18446744073709551615 - 2 ^ b = 2 ^ 64 - (2 ^ b + 1) := by omega
  have hp : 2 ^ b < 2 ^ 64 := Nat.pow_lt_pow_right (by omega) hb
  rw [Nat.testBit_and, e, Nat.testBit_two_pow_sub_succ hp, Nat.testBit_two_pow]
  by_cases hc : c < 64
  · simp [hc, eq_comm]
  · have : x.testBit c = false := Nat.testBit_lt_two_pow (Nat.lt_of_lt_of_le hx (by show 2 ^ 64 ≤ 2 ^ c; exact Nat.pow_le_pow_right (by omega) (by omega)))
    simp [this]

theorem up_clr_stay (g : Nat → Nat) (i : Nat) (h : clr g i (i / 64) ≠ 0) (j : Nat) : up (clr g i) j = up g j := by
  apply up_congr
  intro b _
  unfold clr
  by_cases e : 64 * j + b = i / 64
  · rw [if_pos e]
    unfold clr at h
    rw [if_pos rfl] at h
    rw [e]
    refine ⟨fun _ hg => ?_, fun _ => h⟩
    rw [hg, clrw_zero] at h
    exact h rfl
  · rw [if_neg e]
theorem up_clr_go (g : Nat → Nat) (i : Nat) (h : clr g i (i / 64) = 0) (j : Nat) : up (clr g i) j = clr (up g) (i / 64) j := by
  unfold clr at *
  rw [if_pos rfl] at h
  by_cases ej : j = i / 64 / 64
  · rw [if_pos ej]
    apply Nat.eq_of_testBit_eq
    intro b
    rw [testBit_clrw _ _ _ (by omega) (up_lt g j)]
    show (upTo _ j 64).testBit b = ((upTo g j 64).testBit b && _)
    rw [testBit_upTo, testBit_upTo]
    by_cases hb : b < 64
    · by_cases e : b = i / 64 % 64
      · have e' : 64 * j + b = i / 64 := by omega
        simp only [hb, e']
        simp [h, e]
      · have e' : 64 * j + b ≠ i / 64 := by omega
        simp [hb, e', e]
    · simp [hb]
  · rw [if_neg ej]
    apply up_congr
    intro b hb
    have e' : 64 * j + b ≠ i / 64 := by omega
    simp [e']

theorem clr_comm (f : Nat → Nat) (i j x : Nat) : clr (clr f i) j x = clr (clr f j) i x := by
  unfold clr
  by_cases hi : x = i / 64 <;> by_cases hj : x = j / 64
  · rw [if_pos hj, if_pos hi, if_pos hi, if_pos hj]
    unfold clrw
    rw [Nat.and_assoc, Nat.and_assoc, Nat.and_comm (18446744073709551615 - 2 ^ (i % 64))]
  · rw [if_neg hj, if_pos hi, if_pos hi, if_neg hj]
  · rw [if_pos hj, if_neg hi, if_neg hi, if_pos hj]
  · rw [if_neg hj, if_neg hi, if_neg hi, if_neg hj]
theorem clr_zero (f : Nat → Nat) (L i : Nat) (h : ∀ x, L ≤ x → f x = 0) (x : Nat) (hx : L ≤ x) : clr f i x = 0 := by
  unfold clr
  split
  · rw [h x hx, clrw_zero]
  · exact h x hx
theorem clr_lt (f : Nat → Nat) (i : Nat) (h : ∀ x, f x < 18446744073709551616) (x : Nat) : clr f i x < 18446744073709551616 := by
  unfold clr
  split
  · exact clrw_lt _ _ (h x)
  · exact h x

theorem lv_congr (f g : Nat → Nat) (h : ∀ x, f x = g x) (k x : Nat) : lv f k x = lv g k x := by
  have : f = g := funext h
  rw [this]

/-- The place's number at level k. -/
def ix (i : Nat) : Nat → Nat
  | 0 => i
  | k + 1 => ix i k / 64

/-- The levels while a place is taken out: below k they are done; from k on they are the old ones. 'go': the place's bit at level k is still to be cleared. -/
def mix (f : Nat → Nat) (i k : Nat) (l x : Nat) : Nat := if l < k then lv (clr f i) l x else lv f l x

theorem mix_zero (f : Nat → Nat) (i l x : Nat) : mix f i 0 l x = lv f l x := by simp [mix]

/-- While the loop goes on, level k of the new set is level k of the old one with the place's bit cleared. -/
def going (f : Nat → Nat) (i k : Nat) : Prop := ∀ x, lv (clr f i) k x = clr (lv f k) (ix i k) x

theorem going_zero (f : Nat → Nat) (i : Nat) : going f i 0 := fun _ => rfl
theorem going_step (f : Nat → Nat) (i k : Nat) (hg : going f i k) (h : clr (lv f k) (ix i k) (ix i k / 64) = 0) : going f i (k + 1) := by
  intro x
  have e : lv (clr f i) k = clr (lv f k) (ix i k) := funext hg
  show up (lv (clr f i) k) x = clr (up (lv f k)) (ix i k / 64) x
  rw [e]
  exact up_clr_go _ _ h x
/-- Where the word is not 0 behind the clearing all levels above stay. -/
theorem done_step (f : Nat → Nat) (i k : Nat) (hg : going f i k) (h : clr (lv f k) (ix i k) (ix i k / 64) ≠ 0) : ∀ l, k < l → ∀ x, lv (clr f i) l x = lv f l x := by
  intro l
  induction l with
  | zero => intro h; omega
  | succ l ih =>
    intro hl x
    by_cases e : l = k
    · subst e
      have e : lv (clr f i) l = clr (lv f l) (ix i l) := funext hg
      show up (lv (clr f i) l) x = up (lv f l) x
      rw [e]
      exact up_clr_stay _ _ h x
    · have e : lv (clr f i) l = lv f l := funext (ih (by omega))
      show up (lv (clr f i) l) x = up (lv f l) x
      rw [e]

/-- The place's word lies within each level. -/
theorem ix_lt (L i : Nat) (h : i / 64 < L) : ∀ k, ix i k / 64 < cl L k := by
  intro k
  induction k with
  | zero => exact h
  | succ k ih =>
    show ix i k / 64 / 64 < (cl L k + 63) / 64
    omega

end Go.Proofs.Qxb6617998a.Plain
