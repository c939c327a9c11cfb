/-
  A []byte that came in, and the copy that a law makes of it.
-/
import Derived.Test.Qxb6617877aStarts
import Derived.Laws.CopyOwn
import Derived.WalkSpells
import Derived.Deep.DeepCutAuto
namespace Go.Proofs.Qxb6617877a
open Go.RowKit Plain
set_option linter.unusedVariables false

theorem Try.info5 : (Try.prog.info? 5).map (fun i => (i.zero, i.size, i.bytes)) = some (some (.int .u8 0), 1, 1) := by kernel_rfl
theorem Try.size5 : (Try.prog.info? 5).map (·.size) = some 1 := by kernel_rfl

/-- A []byte that came in: its 'l.length' bytes l; nil, or an address whose cells are known. -/
structure Inp (w : World) (a : Option Addr) (len cap : Nat) (l : List Int) : Prop where
  size : l.length = len
  byte : ∀ x ∈ l, 0 ≤ x ∧ x ≤ 255
  row : (a = none ∧ len = 0 ∧ cap = 0) ∨ ∃ x, a = some x ∧ len ≤ cap ∧ ∀ j u, (l.map (Value.int .u8))[j]? = some u → w.cell? (x.add j) = some u

/-- The law's own copy: nil, or a row of its own from block B on. -/
def Prep (B : Nat) (w : World) (a : Option Addr) (cap : Nat) (l : List Int) : Prop :=
  (a = none ∧ cap = 0 ∧ l = []) ∨ ∃ g, a = some ⟨g, 0, none⟩ ∧ B ≤ g ∧ Text w g l.length cap (byt l)

theorem Prep.below {B : Nat} {w w' : World} {a : Option Addr} {cap : Nat} {l : List Int} (h : Prep B w a cap l) (hb : Below w.heap.size w w') : Prep B w' a cap l := by
  rcases h with h | ⟨g, h1, h2, h3⟩
  · exact .inl h
  · exact .inr ⟨g, h1, h2, h3.below hb h3.lt⟩

theorem byt_byte (l : List Int) (h : ∀ x ∈ l, 0 ≤ x ∧ x ≤ 255) (i : Nat) : 0 ≤ byt l i ∧ byt l i ≤ 255 := by
  by_cases hi : i < l.length
  · have : byt l i = l[i] := by simp [byt, hi]
    rw [this]; exact h _ (List.getElem_mem _)
  · rw [byt_past l i (by omega)]; omega

/-- From a row that is known whole to the text that it holds. -/
theorem text_of_row (w : World) (g c : Nat) (l : List Int) (cur : List Value) (hg : w.heap[g]? = some (.cells cur.toArray 5 (0, 0))) (hl : l.length ≤ c) (hs : l.length ≤ 16777216)
    (hb : ∀ x ∈ l, 0 ≤ x ∧ x ≤ 255) (hc : ∀ i, i < l.length → cur[i]? = some (.int .u8 (byt l i))) : Text w g l.length c (byt l) := by
  refine ⟨hl, hs, fun i hi => ?_, byt_byte l hb, fun i hi => byt_past l i hi, ?_⟩
  · rw [cell_of_row w g i cur.toArray 5 (0, 0) hg]; simpa using hc i hi
  · rcases Nat.lt_or_ge g w.heap.size with h | h
    · exact h
    · rw [Array.getElem?_eq_none h] at hg; simp at hg

theorem map_at (l : List Int) (i : Nat) (hi : i < l.length) : (l.map (Value.int .u8))[i]? = some (.int .u8 (byt l i)) := by
  simp [byt, hi]

theorem row_of_own {w : World} {base : Nat} {e : TypeId} {g n c : Nat} {xs : List Value} (h : w.ownsRow base e 1 (.slice (some ⟨g, 0, none⟩) n c) n xs) :
    ∃ cur : List Value, w.heap[g]? = some (.cells cur.toArray e (0, 0)) ∧ cur.length = c ∧ cur.take n = xs := by
  rcases h.2 with ⟨h', _⟩ | ⟨g', cap', cur, h', _, hg, _, _, hcs, htake⟩
  · simp at h'
  · simp only [Value.slice.injEq, Option.some.injEq, Addr.mk.injEq, and_true, true_and] at h'
    obtain ⟨rfl, rfl⟩ := h'
    exact ⟨cur.toList, by simpa using hg, by simpa using hcs, by simpa using htake⟩

theorem below_of_grown {w w' : World} {row : Option Nat} (h : w.grownBy w' row) (hr : ∀ k, row = some k → w.heap.size ≤ k) : Below w.heap.size w w' :=
  (Below.refl _ _).grown h (Nat.le_refl _) hr

/-- 'copy(zzc, data)' over the whole of a row just made. -/
theorem prep_of_copy {B g : Nat} {w : World} {l : List Int} {cur : List Value} (hB : B ≤ g) (hg : w.heap[g]? = some (.cells (splice cur 0 (l.map (Value.int .u8))).toArray 5 (0, 0))) (hl : cur.length = l.length)
    (hs : l.length ≤ 16777216) (hb : ∀ x ∈ l, 0 ≤ x ∧ x ≤ 255) : Prep B w (some ⟨g, 0, none⟩) l.length l := by
  refine .inr ⟨g, rfl, hB, text_of_row w g l.length l _ hg (Nat.le_refl _) hs hb fun i hi => ?_⟩
  have e : splice cur 0 (l.map (Value.int .u8)) = l.map (Value.int .u8) := by simp [splice, ← hl]
  rw [e]; exact map_at l i hi

theorem Prep.nothing {B : Nat} {w : World} {a : Option Addr} {cap : Nat} {l : List Int} (h : Prep B w a cap l) : a = none → l.length = 0 ∧ cap = 0 := by
  rcases h with ⟨_, h2, h3⟩ | ⟨g, h1, _⟩
  · intro _; subst h3; exact ⟨rfl, h2⟩
  · intro e; rw [h1] at e; cases e

theorem Prep.cells {B : Nat} {w : World} {a : Option Addr} {cap : Nat} {l : List Int} (h : Prep B w a cap l) : ∀ ad, a = some ad → ∀ j u, (l.map (Value.int .u8))[j]? = some u → w.cell? (ad.add j) = some u := by
  intro ad e j u hu
  rcases h with ⟨h1, _⟩ | ⟨g, h1, _, T⟩
  · rw [h1] at e; cases e
  · rw [h1] at e; cases e
    have hj : j < l.length := by
      have := (List.getElem?_eq_some_iff.1 hu).1
      simpa using this
    rw [map_at l j hj] at hu
    cases hu
    have : (⟨g, 0, none⟩ : Addr).add j = ⟨g, j, none⟩ := by simp [Addr.add]; omega
    rw [this]; exact T.cell j hj

/-- A slice of ints from the head of block g: it holds L. -/
structure Ints (w : World) (g : Nat) (L : List Int) : Prop where
  cell : ∀ j, j < L.length → w.cell? ⟨g, j, none⟩ = some (.int .i64 (L.getD j 0))

theorem Ints.below {w w' : World} {g : Nat} {L : List Int} (h : Ints w g L) (hb : Below w.heap.size w w') : Ints w' g L := ⟨fun j hj => cell_later hb (h.cell j hj)⟩

theorem ints_of_own {w : World} {base : Nat} {v : Value} {L : List Int} (h : w.ownsRow base 3 1 v L.length (L.map (Value.int .i64))) (h1 : 0 < L.length) :
    ∃ g cap, v = .slice (some ⟨g, 0, none⟩) L.length cap ∧ Ints w g L := by
  have h' := h
  rcases h.2 with ⟨_, h2⟩ | ⟨g, cap, cur, rfl, _⟩
  · omega
  · refine ⟨g, cap, rfl, ⟨fun j hj => ?_⟩⟩
    rw [h'.cellAt j (by omega)]
    simp [hj]

theorem starts_pos (l : List Int) (k : Nat) : 0 < (starts l k).length := by simp [starts]

/-- ZZlineStarts of the law's own copy. -/
theorem zzStarts_prep (B : Nat) (w : World) (ao : Option Addr) (c n : Nat) (l : List Int) (P : Prep B w ao c l) (hn : l.length = n) :
    Calls Try.prog 9 #[.slice ao n c] w fun e w' => ∃ g cap, e = .returned (.slice (some ⟨g, 0, none⟩) (starts l n).length cap) ∧ Ints w' g (starts l n) ∧ Below w.heap.size w w' := by
  subst hn
  rcases P with ⟨rfl, rfl, rfl⟩ | ⟨g, rfl, _, T⟩
  · refine (zzStarts_nil w).mono ?_
    rintro e w' ⟨v, rfl, hown, hb⟩
    have hL : starts [] 0 = [0] := by decide
    obtain ⟨g, cap, rfl, hI⟩ := ints_of_own (L := starts [] 0) (by rw [hL]; exact hown) (starts_pos _ _)
    exact ⟨g, cap, rfl, hI, hb⟩
  · refine (zzStarts_any g l.length c (byt l) w T).mono ?_
    rintro e w' ⟨v, rfl, hown, hb⟩
    obtain ⟨g, cap, rfl, hI⟩ := ints_of_own (L := starts l l.length) hown (starts_pos _ _)
    exact ⟨g, cap, rfl, hI, hb⟩

theorem tail_bound (f : Nat → Int) (k : Nat) : ∀ x ∈ tail f k, 0 ≤ x ∧ x ≤ k := by
  induction k with
  | zero => simp [tail]
  | succ k ih =>
    intro x hx
    simp only [tail, List.mem_append] at hx
    rcases hx with hx | hx
    · have := ih x hx; omega
    · split at hx
      · simp at hx; omega
      · simp at hx

theorem starts_bound (l : List Int) (k j : Nat) : 0 ≤ (starts l k).getD j 0 ∧ (starts l k).getD j 0 ≤ k + 3 := by
  by_cases hj : j < (starts l k).length
  · have e : (starts l k).getD j 0 = (starts l k)[j] := by simp [hj]
    have hm : (starts l k)[j] ∈ starts l k := List.getElem_mem _
    rw [e]
    generalize (starts l k)[j] = x at hm
    simp only [starts, List.mem_cons] at hm
    rcases hm with rfl | hm
    · unfold first; split <;> omega
    · have := tail_bound _ _ x hm; omega
  · simp [List.getD, List.getElem?_eq_none (Nat.le_of_not_lt hj)]; omega

theorem two_new (w : World) (x y : Value) (t : TypeId) : ∀ j u, [x, y][j]? = some u → (w.alloc (.cells #[x, y] t)).cell? ((⟨w.heap.size, 0, none⟩ : Addr).add j) = some u := by
  intro j u hj
  match j, hj with
  | 0, hj => simp at hj; subst hj; simp [Addr.add]
  | 1, hj => simp at hj; subst hj; simp [Addr.add]
theorem two_cells (k : IntKind) (x y : Int) : ∀ u ∈ [Value.int k x, .int k y], u.oneCell' = true := by
  intro u hu; simp at hu; rcases hu with rfl | rfl <;> rfl

/-- The joined text. -/
theorem text_of_own {w : World} {base g n c : Nat} {l : List Int} (h : w.ownsRow base 5 1 (.slice (some ⟨g, 0, none⟩) n c) n (l.map (Value.int .u8))) (hb : ∀ x ∈ l, 0 ≤ x ∧ x ≤ 255) (hs : n ≤ 16777216) (hn : l.length = n) : Text w g n c (byt l) := by
  subst hn
  have hc : l.length ≤ c := by
    rcases h.2 with ⟨h', _⟩ | ⟨g', cap', cur, h', _, _, hnc, _⟩
    · simp at h'
    · simp only [Value.slice.injEq] at h'
      omega
  obtain ⟨cur, hrow, hl, ht⟩ := row_of_own h
  refine text_of_row w g c l cur hrow hc hs hb fun i hi => ?_
  rw [← map_at l i hi, ← ht, List.getElem?_take, if_pos hi]

theorem bytes_crlf {a b : List Int} (ha : ∀ x ∈ a, 0 ≤ x ∧ x ≤ 255) (hb : ∀ x ∈ b, 0 ≤ x ∧ x ≤ 255) : ∀ x ∈ a ++ (13 :: 10 :: b), 0 ≤ x ∧ x ≤ 255 := by
  intro x hx
  simp only [List.mem_append, List.mem_cons] at hx
  rcases hx with h | rfl | rfl | h
  · exact ha x h
  · omega
  · omega
  · exact hb x h

/-- A slice of m ints from the head of block g. -/
def IntsF (w : World) (g m : Nat) (F : Nat → Int) : Prop := ∀ j, j < m → w.cell? ⟨g, j, none⟩ = some (.int .i64 (F j))

theorem IntsF.below {w w' : World} {g m : Nat} {F : Nat → Int} (h : IntsF w g m F) (hb : Below w.heap.size w w') : IntsF w' g m F := fun j hj => cell_later hb (h j hj)

theorem zzStarts_fn (B : Nat) (w : World) (ao : Option Addr) (c n : Nat) (l : List Int) (P : Prep B w ao c l) (hn : l.length = n) (m : Nat) (hm : (starts l n).length = m) (F : Nat → Int) (hF : ∀ j, (starts l n).getD j 0 = F j) :
    Calls Try.prog 9 #[.slice ao n c] w fun e w' => ∃ g cap, e = .returned (.slice (some ⟨g, 0, none⟩) m cap) ∧ IntsF w' g m F ∧ Below w.heap.size w w' := by
  subst hm
  refine (zzStarts_prep B w ao c n l P hn).mono ?_
  rintro e w' ⟨g, cap, rfl, h, hb⟩
  exact ⟨g, cap, rfl, fun j hj => by rw [← hF]; exact h.cell j hj, hb⟩

theorem zz12 (a0 a1 : Option Addr) (n0 c0 n1 c1 : Nat) (w : World) (h0 : n0 ≤ 524288) (h1 : n1 ≤ 524288) :
    Calls Try.prog 12 #[.slice a0 n0 c0, .slice a1 n1 c1] w fun e w' => e = .returned (.bool true) ∧ w = w' := by
  go_enter Try.func12, Try.ntmps12
  go_wp2
  go_ret
  exact ⟨rfl, rfl⟩

end Go.Proofs.Qxb6617877a
