/-
  THE PLAIN LAWS OF LINE BREAKS: no Go in sight. A text is told by 'f : Nat → Int': byte i, and 0 beyond its end (0 is no byte of a break).
-/
namespace Go.Proofs.Qxb6617877a.Plain

/-- The length of the break text that begins at i; 0: none. -/
def brk (f : Nat → Int) (i : Nat) : Nat :=
  if f i = 10 then 1
  else if f i = 13 then (if f (i + 1) = 10 then 2 else 1)
  else if f i = 194 ∧ f (i + 1) = 133 then 2
  else if f i = 226 ∧ f (i + 1) = 128 ∧ (f (i + 2) = 168 ∨ f (i + 2) = 169) then 3
  else 0

/-- A break text ends at p (looking back), the inside of CR LF apart. -/
def ends (f : Nat → Int) (p : Nat) : Bool :=
  decide (f (p - 1) = 10 ∨ (f (p - 1) = 13 ∧ f p ≠ 10) ∨ (2 ≤ p ∧ f (p - 2) = 194 ∧ f (p - 1) = 133)
    ∨ (3 ≤ p ∧ f (p - 3) = 226 ∧ f (p - 2) = 128 ∧ (f (p - 1) = 168 ∨ f (p - 1) = 169)))

theorem brk_le (f : Nat → Int) (i : Nat) : brk f i ≤ 3 := by
  unfold brk; repeat' split
  all_goals omega

theorem brk1 (f : Nat → Int) (i : Nat) : brk f i = 1 ↔ f i = 10 ∨ (f i = 13 ∧ f (i + 1) ≠ 10) := by
  unfold brk; repeat' split
  all_goals omega
theorem brk2 (f : Nat → Int) (i : Nat) : brk f i = 2 ↔ (f i = 13 ∧ f (i + 1) = 10) ∨ (f i = 194 ∧ f (i + 1) = 133) := by
  unfold brk; repeat' split
  all_goals omega
theorem brk3 (f : Nat → Int) (i : Nat) : brk f i = 3 ↔ f i = 226 ∧ f (i + 1) = 128 ∧ (f (i + 2) = 168 ∨ f (i + 2) = 169) := by
  unfold brk; repeat' split
  all_goals omega

/-- A break ends at p just where a break begins 1, 2 or 3 bytes before it that is as long. -/
theorem ends_iff (f : Nat → Int) (p : Nat) (hp : 1 ≤ p) :
    ends f p = true ↔ (1 ≤ p ∧ brk f (p - 1) = 1) ∨ (2 ≤ p ∧ brk f (p - 2) = 2) ∨ (3 ≤ p ∧ brk f (p - 3) = 3) := by
  unfold ends
  rw [decide_eq_true_iff, brk1, brk2, brk3]
  have e1 : p - 1 + 1 = p := by omega
  by_cases h2 : 2 ≤ p
  · have e2 : p - 2 + 1 = p - 1 := by omega
    by_cases h3 : 3 ≤ p
    · have e3 : p - 3 + 1 = p - 2 := by omega
      have e4 : p - 3 + 2 = p - 1 := by omega
      simp only [e1, e2, e3, e4]
      omega
    · simp only [e1, e2]
      omega
  · simp only [e1]
    omega

/-- The same, told by the beginning. -/
theorem ends_of_brk (f : Nat → Int) (q : Nat) (h : 0 < brk f q) : ends f (q + brk f q) = true := by
  have hle := brk_le f q
  rw [ends_iff f _ (by omega)]
  have : brk f q = 1 ∨ brk f q = 2 ∨ brk f q = 3 := by omega
  rcases this with e | e | e <;> rw [e]
  · left; exact ⟨by omega, e⟩
  · right; left; exact ⟨by omega, e⟩
  · right; right; exact ⟨by omega, e⟩

theorem brk_of_ends (f : Nat → Int) (p : Nat) (hp : 1 ≤ p) (h : ends f p = true) : ∃ q, q < p ∧ 0 < brk f q ∧ q + brk f q = p := by
  rcases (ends_iff f p hp).1 h with ⟨a, b⟩ | ⟨a, b⟩ | ⟨a, b⟩
  · exact ⟨p - 1, by omega, by omega, by omega⟩
  · exact ⟨p - 2, by omega, by omega, by omega⟩
  · exact ⟨p - 3, by omega, by omega, by omega⟩

/-- Place i lies inside no break that begins before it. -/
def sync (f : Nat → Int) (i : Nat) : Prop := ∀ q, q < i → q + brk f q ≤ i

theorem sync_zero (f : Nat → Int) : sync f 0 := fun q h => by omega

theorem sync_step0 (f : Nat → Int) (i : Nat) (h : sync f i) (hb : brk f i = 0) : sync f (i + 1) := by
  intro q hq
  by_cases e : q = i
  · subst e; omega
  · have := h q (by omega); omega

/-- What lies inside a break begins none, but for the LF of a CR LF. -/
theorem inside (f : Nat → Int) (i q : Nat) (h1 : i < q) (h2 : q < i + brk f i) : q + brk f q ≤ i + brk f i ∧ (brk f i = 3 → brk f q = 0) := by
  have hle := brk_le f i
  have : brk f i = 2 ∨ brk f i = 3 := by omega
  rcases this with e | e
  · obtain rfl : q = i + 1 := by omega
    rw [e]
    rcases (brk2 f i).1 e with ⟨_, h⟩ | ⟨_, h⟩
    · have : brk f (i + 1) = 1 := (brk1 f _).2 (.inl h)
      omega
    · have : brk f (i + 1) = 0 := by unfold brk; simp [h]
      omega
  · rw [e]
    obtain ⟨_, h, h'⟩ := (brk3 f i).1 e
    have z1 : brk f (i + 1) = 0 := by unfold brk; simp [h]
    have z2 : brk f (i + 2) = 0 := by unfold brk; rcases h' with h' | h' <;> simp [h']
    have : q = i + 1 ∨ q = i + 2 := by omega
    rcases this with rfl | rfl
    · omega
    · omega

theorem sync_step (f : Nat → Int) (i : Nat) (h : sync f i) : sync f (i + brk f i) := by
  intro q hq
  by_cases h1 : q < i
  · have := h q h1; omega
  · by_cases e : q = i
    · subst e; omega
    · exact (inside f i q (by omega) hq).1

/-- The line starts behind the first, up to place k. -/
def tail (f : Nat → Int) : Nat → List Int
  | 0 => []
  | k + 1 => tail f k ++ (if ends f (k + 1) = true then [((k + 1 : Nat) : Int)] else [])

theorem tail_length (f : Nat → Int) (k : Nat) : (tail f k).length ≤ k := by
  induction k with
  | zero => simp [tail]
  | succ k ih => simp only [tail, List.length_append]; split <;> simp <;> omega

theorem tail_no (f : Nat → Int) (k : Nat) (h : ends f (k + 1) = false) : tail f (k + 1) = tail f k := by simp [tail, h]
theorem tail_yes (f : Nat → Int) (k : Nat) (h : ends f (k + 1) = true) : tail f (k + 1) = tail f k ++ [((k + 1 : Nat) : Int)] := by simp [tail, h]

theorem no_end0 (f : Nat → Int) (i : Nat) (h : sync f i) (hb : brk f i = 0) : ends f (i + 1) = false := by
  rw [Bool.eq_false_iff]
  intro he
  obtain ⟨q, h1, h2, h3⟩ := brk_of_ends f (i + 1) (by omega) he
  by_cases e : q = i
  · subst e; omega
  · have := h q (by omega); omega

theorem tail_step0 (f : Nat → Int) (i : Nat) (h : sync f i) (hb : brk f i = 0) : tail f (i + 1) = tail f i :=
  tail_no f i (no_end0 f i h hb)

theorem no_end (f : Nat → Int) (i j : Nat) (h : sync f i) (h1 : 1 ≤ j) (h2 : j < brk f i) : ends f (i + j) = false := by
  rw [Bool.eq_false_iff]
  intro he
  obtain ⟨q, g1, g2, g3⟩ := brk_of_ends f (i + j) (by omega) he
  have hle := brk_le f i
  by_cases e : q = i
  · subst e; omega
  · by_cases e' : q < i
    · have := h q e'; omega
    · have := (inside f i q (by omega) (by omega)).2 (by omega); omega

theorem tail_step (f : Nat → Int) (i : Nat) (h : sync f i) (hb : 0 < brk f i) : tail f (i + brk f i) = tail f i ++ [((i + brk f i : Nat) : Int)] := by
  have hle := brk_le f i
  have hy := ends_of_brk f i hb
  have hn := no_end f i
  have : brk f i = 1 ∨ brk f i = 2 ∨ brk f i = 3 := by omega
  rcases this with e | e | e
  · rw [e] at hy ⊢; exact tail_yes f i hy
  · have n1 := hn 1 h (by omega) (by omega)
    rw [e] at hy ⊢
    rw [tail_yes f (i + 1) hy, tail_no f i n1]
  · have n1 := hn 1 h (by omega) (by omega)
    have n2 := hn 2 h (by omega) (by omega)
    rw [e] at hy ⊢
    rw [tail_yes f (i + 2) hy, tail_no f (i + 1) n2, tail_no f i n1]

/-- Byte i of a list, 0 beyond its end. -/
def byt (l : List Int) (i : Nat) : Int := l.getD i 0

/-- The first line's start: behind the byte order mark. -/
def first (l : List Int) : Int := if byt l 0 = 239 ∧ byt l 1 = 187 ∧ byt l 2 = 191 then 3 else 0

/-- All line starts up to place k. -/
def starts (l : List Int) (k : Nat) : List Int := first l :: tail (byt l) k

theorem starts_length (l : List Int) (k : Nat) : (starts l k).length ≤ k + 1 := by
  have := tail_length (byt l) k
  simp [starts]; omega

/-! ### a ++ CR LF ++ b -/
theorem byt_left (a c : List Int) (i : Nat) (h : i < a.length) : byt (a ++ c) i = byt a i := by
  simp only [byt, List.getD_eq_getElem?_getD]; rw [List.getElem?_append_left h]
theorem byt_right (a c : List Int) (i : Nat) : byt (a ++ c) (a.length + i) = byt c i := by
  simp only [byt, List.getD_eq_getElem?_getD]; rw [List.getElem?_append_right (by omega)]; congr 2; omega
theorem byt_past (a : List Int) (i : Nat) (h : a.length ≤ i) : byt a i = 0 := by
  simp only [byt, List.getD_eq_getElem?_getD]; rw [List.getElem?_eq_none h]; rfl

theorem ends_congr (f g : Nat → Int) (p : Nat) (h : ∀ i, i ≤ p → p ≤ i + 3 → f i = g i) (hp : 1 ≤ p) : ends f p = ends g p := by
  unfold ends
  have e1 := h (p - 1) (by omega) (by omega)
  have e0 := h p (by omega) (by omega)
  rw [e1, e0]
  by_cases h2 : 2 ≤ p
  · have e2 := h (p - 2) (by omega) (by omega)
    rw [e2]
    by_cases h3 : 3 ≤ p
    · have e3 := h (p - 3) (by omega) (by omega)
      rw [e3]
    · simp [h3]
  · simp [h2, show ¬ 3 ≤ p by omega]

theorem tail_congr (f g : Nat → Int) (k : Nat) (h : ∀ p, 1 ≤ p → p ≤ k → ends f p = ends g p) : tail f k = tail g k := by
  induction k with
  | zero => rfl
  | succ k ih => simp only [tail]; rw [ih fun p h1 h2 => h p h1 (by omega), h (k + 1) (by omega) (by omega)]

/-- A text ahead of CR LF and more: its line starts are its own. -/
theorem tail_crlf_left (a b : List Int) (k : Nat) (hk : k ≤ a.length) : tail (byt (a ++ (13 :: 10 :: b))) k = tail (byt a) k := by
  refine tail_congr _ _ _ fun p h1 h2 => ?_
  by_cases hp : p < a.length
  · exact ends_congr _ _ _ (fun i hi _ => byt_left _ _ _ (by omega)) h1
  · obtain rfl : p = a.length := by omega
    have e0 : byt (a ++ (13 :: 10 :: b)) a.length = 13 := by simp [byt]
    have e0' : byt a a.length = 0 := byt_past a _ (Nat.le_refl _)
    have el : ∀ i, i < a.length → byt (a ++ (13 :: 10 :: b)) i = byt a i := fun i hi => byt_left _ _ _ hi
    unfold ends
    rw [e0, e0', el (a.length - 1) (by omega)]
    by_cases h2' : 2 ≤ a.length
    · rw [el (a.length - 2) (by omega)]
      by_cases h3 : 3 ≤ a.length
      · rw [el (a.length - 3) (by omega)]; simp
      · simp [h3]
    · simp [h2', show ¬ 3 ≤ a.length by omega]

theorem tail_crlf_mid (a b : List Int) : tail (byt (a ++ (13 :: 10 :: b))) (a.length + 2) = tail (byt a) a.length ++ [((a.length + 2 : Nat) : Int)] := by
  have e0 : byt (a ++ (13 :: 10 :: b)) a.length = 13 := by simp [byt]
  have e1 : byt (a ++ (13 :: 10 :: b)) (a.length + 1) = 10 := by simp [byt]
  have n1 : ends (byt (a ++ (13 :: 10 :: b))) (a.length + 1) = false := by
    unfold ends
    simp only [Nat.add_sub_cancel, e0, e1, decide_eq_false_iff_not]
    omega
  have y2 : ends (byt (a ++ (13 :: 10 :: b))) (a.length + 1 + 1) = true := by
    unfold ends
    simp only [Nat.add_sub_cancel, e1]
    simp
  show tail _ (a.length + 1 + 1) = _
  rw [tail_yes _ _ y2, tail_no _ _ n1, tail_crlf_left a b _ (Nat.le_refl _)]

theorem tail_crlf_right (a b : List Int) (k : Nat) :
    tail (byt (a ++ (13 :: 10 :: b))) (a.length + 2 + k) = tail (byt a) a.length ++ [((a.length + 2 : Nat) : Int)] ++ (tail (byt b) k).map (· + ((a.length + 2 : Nat) : Int)) := by
  induction k with
  | zero => rw [Nat.add_zero, tail_crlf_mid]; simp [tail]
  | succ k ih =>
    have ee : ends (byt (a ++ (13 :: 10 :: b))) (a.length + 2 + k + 1) = ends (byt b) (k + 1) := by
      have er : ∀ i, byt (a ++ (13 :: 10 :: b)) (a.length + 2 + i) = byt b i := fun i => by
        have := byt_right a (13 :: 10 :: b) (2 + i)
        rw [← Nat.add_assoc] at this
        rw [this]; simp [byt, Nat.add_comm 2 i]
      have e1 : byt (a ++ (13 :: 10 :: b)) (a.length + 1) = 10 := by simp [byt]
      unfold ends
      rw [show a.length + 2 + k + 1 - 1 = a.length + 2 + k by omega, show a.length + 2 + k + 1 = a.length + 2 + (k + 1) by omega, er k, er (k + 1)]
      by_cases h1 : k = 0
      · subst h1
        rw [show a.length + 2 + (0 + 1) - 2 = a.length + 1 by omega, show a.length + 2 + (0 + 1) - 3 = a.length by omega, e1]
        simp
      · rw [show a.length + 2 + (k + 1) - 2 = a.length + 2 + (k - 1) by omega, er (k - 1)]
        by_cases h2 : k = 1
        · subst h2
          rw [show a.length + 2 + (1 + 1) - 3 = a.length + 1 by omega, e1]
          simp
        · rw [show a.length + 2 + (k + 1) - 3 = a.length + 2 + (k - 2) by omega, er (k - 2)]
          rw [show k + 1 - 2 = k - 1 by omega, show k + 1 - 3 = k - 2 by omega, show k + 1 - 1 = k by omega]
          have g2 : (2 ≤ a.length + 2 + (k + 1)) = True := by simp; omega
          have g3 : (3 ≤ a.length + 2 + (k + 1)) = True := by simp; omega
          have g4 : (2 ≤ k + 1) = True := by simp; omega
          have g5 : (3 ≤ k + 1) = True := by simp; omega
          simp only [g2, g3, g4, g5]
    show tail _ (a.length + 2 + k + 1) = _
    simp only [tail]
    rw [ih, ee]
    by_cases h : ends (byt b) (k + 1) = true
    · simp only [h, if_true, List.map_append, List.append_assoc, List.map_cons, List.map_nil]
      congr 4
      simp; omega
    · simp [h]

theorem first_crlf (a b : List Int) : first (a ++ (13 :: 10 :: b)) = first a := by
  have e0 : byt (a ++ (13 :: 10 :: b)) a.length = 13 := by simp [byt]
  have e0' : byt a a.length = 0 := byt_past a _ (Nat.le_refl _)
  have el : ∀ i, i < a.length → byt (a ++ (13 :: 10 :: b)) i = byt a i := fun i hi => byt_left _ _ _ hi
  unfold first
  by_cases h1 : a.length = 0
  · rw [h1] at e0 e0'; simp [e0, e0']
  · rw [el 0 (by omega)]
    by_cases h2 : a.length = 1
    · rw [h2] at e0 e0'; simp [e0, e0']
    · rw [el 1 (by omega)]
      by_cases h3 : a.length = 2
      · rw [h3] at e0 e0'; simp [e0, e0']
      · rw [el 2 (by omega)]

/-- THE PLAIN LAW of 'FnLineStartsJoinAtCRLF'. -/
theorem starts_crlf (a b : List Int) :
    starts (a ++ (13 :: 10 :: b)) (a.length + 2 + b.length) = starts a a.length ++ (((a.length + 2 : Nat) : Int) :: (tail (byt b) b.length).map (· + ((a.length + 2 : Nat) : Int))) := by
  unfold starts
  rw [tail_crlf_right, first_crlf]
  simp

end Go.Proofs.Qxb6617877a.Plain
