/-
  The walk of 'FnBreakAtIsRuneBreakAfterAnyPrefix' (function 5).
-/
import Derived.Test.Qxb6617877aDec
namespace Go.Proofs.Qxb6617877a
open Go.RowKit Plain
set_option linter.unusedVariables false

theorem zz13 (a0 a1 : Option Addr) (n0 c0 n1 c1 : Nat) (j : Int) (w : World) (h0 : n0 ≤ 524288) (h1 : n1 ≤ 524288) :
    Calls Try.prog 13 #[.slice a0 n0 c0, .slice a1 n1 c1, .int .i64 j] w fun e w' => e = .returned (.bool true) ∧ w = w' := by
  go_enter Try.func13, Try.ntmps13
  go_wp2
  go_ret
  exact ⟨rfl, rfl⟩

theorem rune_big (a0 : Option Addr) (n0 c0 : Nat) (a1 : Option Addr) (n1 c1 : Nat) (j : Int) (w : World) (h0 : n0 ≤ maxLen) (h1 : n1 ≤ maxLen) (h : 524288 < n0 ∨ 524288 < n1) :
    Calls Try.prog 5 #[.slice a0 n0 c0, .slice a1 n1 c1, .int .i64 j] w fun e w' => e = .returned (.bool true) ∧ Below w.heap.size w w' := by
  unfold maxLen at h0 h1
  by_cases hA : n0 ≤ 524288
  · have hB : 524288 < n1 := by omega
    clear h
    go_enter Try.func5, Try.ntmps5
    go_wp2
    all_goals (go_ret; exact ⟨rfl, Below.refl _ _⟩)
  · clear h
    go_enter Try.func5, Try.ntmps5
    go_wp2
    all_goals (go_ret; exact ⟨rfl, Below.refl _ _⟩)

theorem rune_out (a0 : Option Addr) (n0 c0 : Nat) (a1 : Option Addr) (n1 c1 : Nat) (j : Int) (w : World) (h0 : n0 ≤ 524288) (h1 : n1 ≤ 524288) (h : j < 0 ∨ (n1 : Int) ≤ j) :
    Calls Try.prog 5 #[.slice a0 n0 c0, .slice a1 n1 c1, .int .i64 j] w fun e w' => e = .returned (.bool true) ∧ Below w.heap.size w w' := by
  by_cases hj : j < 0
  · clear h
    go_enter Try.func5, Try.ntmps5
    go_wp2_with (go_at_call 13; refine (zz13 _ _ _ _ _ _ _ _ h0 h1).mono ?_; rintro e w' ⟨rfl, rfl⟩)
    all_goals (go_ret; exact ⟨rfl, Below.refl _ _⟩)
  · have hj' : (n1 : Int) ≤ j := by omega
    clear h
    go_enter Try.func5, Try.ntmps5
    go_wp2_with (go_at_call 13; refine (zz13 _ _ _ _ _ _ _ _ h0 h1).mono ?_; rintro e w' ⟨rfl, rfl⟩)
    all_goals (go_ret; exact ⟨rfl, Below.refl _ _⟩)

theorem lt_of_row {w : World} {g : Nat} {o : Obj} (h : w.heap[g]? = some o) : g < w.heap.size := by
  rcases Nat.lt_or_ge g w.heap.size with h' | h'
  · exact h'
  · rw [Array.getElem?_eq_none h'] at h; simp at h

theorem copied {w : World} {g n : Nat} {l : List Int} {cur : List Value} (hl : l.length = n) (hc : cur.length = n) (hg : w.heap[g]? = some (.cells (splice cur 0 (l.map (Value.int .u8))).toArray 5 (0, 0))) :
    ∀ ad, some (⟨g, 0, none⟩ : Addr) = some ad → ∀ k u, (l.map (Value.int .u8))[k]? = some u → w.cell? (ad.add k) = some u := by
  intro ad had k u hu
  cases had
  have e : splice cur 0 (l.map (Value.int .u8)) = l.map (Value.int .u8) := by simp [splice, hl, ← hc]
  rw [e] at hg
  have : (⟨g, 0, none⟩ : Addr).add k = ⟨g, k, none⟩ := by simp [Addr.add]; omega
  rw [this, cell_of_row w g k _ 5 (0, 0) hg]
  simpa using hu

theorem bytes_app {a b : List Int} (ha : ∀ x ∈ a, 0 ≤ x ∧ x ≤ 255) (hb : ∀ x ∈ b, 0 ≤ x ∧ x ≤ 255) : ∀ x ∈ a ++ b, 0 ≤ x ∧ x ≤ 255 := by
  intro x hx
  simp only [List.mem_append] at hx
  rcases hx with h | h
  · exact ha x h
  · exact hb x h

theorem zzBreakAt_at (g n c i : Nat) (f : Nat → Int) (w : World) (T : Text w g n c f) (hi : i < n) (I : Int) (hI : I = (i : Int)) (v : Nat) (hv : brk f i = v) :
    Calls Try.prog 15 #[.slice (some ⟨g, 0, none⟩) n c, .int .i64 I] w fun e w' => e = .returned (.int .i64 (v : Int)) ∧ Below w.heap.size w w' := by
  subst hI hv
  exact zzBreakAt_any g n c i f w T hi

theorem brk_shift (a b : List Int) (j : Nat) : brk (byt (a ++ b)) (a.length + j) = brk (byt b) j := by
  have e : ∀ k, byt (a ++ b) (a.length + j + k) = byt b (j + k) := fun k => by rw [Nat.add_assoc]; exact byt_right a b (j + k)
  have e0 := e 0
  simp only [Nat.add_zero] at e0
  unfold brk
  rw [e0, e 1, e 2]

set_option maxRecDepth 100000 in
set_option maxHeartbeats 2000000 in
theorem rune_main (a0 : Option Addr) (n0 c0 : Nat) (l0 : List Int) (a1 : Option Addr) (n1 c1 : Nat) (l1 : List Int) (j : Nat) (w : World) (I0 : Inp w a0 n0 c0 l0) (I1 : Inp w a1 n1 c1 l1) (h0 : n0 ≤ 524288) (h1 : n1 ≤ 524288) (hj : j < n1) :
    Calls Try.prog 5 #[.slice a0 n0 c0, .slice a1 n1 c1, .int .i64 j] w fun e w' => e = .returned (.bool true) ∧ Below w.heap.size w w' := by
  obtain ⟨i5, hi5, hz0, hz1, hz2⟩ := info_parts Try.info5
  have hnn := fun (w : World) (a : Option Addr) (n c n' c' : Nat) => run_neq_slice_nil_any (P := Try.prog) w 22 5 a n c n' c' Try.underlying22
  have hj1 : ¬ ((j : Int) < 0) := by omega
  have hj2 : ¬ ((n1 : Int) ≤ (j : Int)) := by omega
  have s0 := I0.size
  have s1 := I1.size
  have hb : i5.bytes * n1 ≤ 281474976710656 := by rw [hz2]; omega
  have hb' : i5.bytes * (n0 + n1) ≤ 281474976710656 := by rw [hz2]; omega
  have hnone : a0 = none → n0 = 0 ∧ c0 = 0 := by
    rcases I0.row with ⟨_, h2, h3⟩ | ⟨x, hx, _⟩
    · exact fun _ => ⟨h2, h3⟩
    · intro e; rw [hx] at e; cases e
  have hcells : ∀ W, Below w.heap.size w W → ∀ ad, a0 = some ad → ∀ k u, (l0.map (Value.int .u8))[k]? = some u → W.cell? (ad.add k) = some u := by
    intro W hW ad had k u hu
    rcases I0.row with ⟨h2, _⟩ | ⟨x, hx, _, hc⟩
    · rw [h2] at had; cases had
    · rw [hx] at had; cases had; exact cell_later hW (hc k u hu)
  have HN : Hid (a0 = none → n0 = 0 ∧ c0 = 0) := hnone
  have HC : Hid (∀ W, Below w.heap.size w W → ∀ ad, a0 = some ad → ∀ k u, (l0.map (Value.int .u8))[k]? = some u → W.cell? (ad.add k) = some u) := hcells
  clear hnone hcells
  rcases I1.row with ⟨_, h2, _⟩ | ⟨x, rfl, hcap, hcell⟩
  · omega
  have HX : Hid (∀ k u, (l1.map (Value.int .u8))[k]? = some u → w.cell? (x.add k) = some u) := hcell
  clear hcell
  go_enter Try.func5, Try.ntmps5
  go_wp2_with (first
    | (go_at_call 13; refine (zz13 _ _ _ _ _ _ _ _ h0 h1).mono ?_; rintro e w' ⟨rfl, rfl⟩)
    | (at_make; refine wpList_make_full _ rfl (.tmp 32) (.tmp 32) 22 rfl w.heap.size 5 i5 (.int .u8 0) 1 Try.underlying22 hi5 hz0 hz1 .i64 .i64 _ _ n1 rfl rfl rfl rfl hb (by unfold maxLen; omega) (Nat.le_refl _) ?_; intro wm hown hgm; obtain ⟨cur, hrow, hcl, -⟩ := row_of_own hown; have hbm := below_of_grown hgm (by simp); clear hown hgm)
    | (refine wpList_copy_splice rfl (.tmp 34) (.tmp 35) 22 22 rfl 5 Try.underlying22 Try.size5 _ _ _ _ _ _ rfl rfl w.heap.size 0 cur 5 hrow (l1.map (Value.int .u8)) (by simp [s1]) (fun _ => ⟨rfl, x, rfl, fun k v hk => cell_later hbm (HX.out k v hk)⟩) (by simp [s1, hcl]) (ints_oneCell _ _) w.heap.size w hbm (Nat.le_refl _) ?_; intro wd HG hbd; have hlt := lt_of_row HG.out)
    | (at_make; refine wpList_make_own _ rfl (.const (.int .i64 0)) (.tmp 42) 22 rfl wd.heap.size 5 i5 (.int .u8 0) 1 Try.underlying22 hi5 hz0 hz1 .i64 .i64 _ (n0 + n1) rfl rfl (by omega) hb' (by unfold maxLen; omega) (Nat.le_refl _) ?_; intro we hown hge; have hbe := below_of_grown hge (by simp); clear hge)
    | (at_builtin; refine wpList_append_fits_any _ rfl (.tmp 44) (.tmp 45) 22 rfl wd.heap.size 5 i5 1 Try.underlying22 hi5 hz1 wd.heap.size 0 (n0 + n1) _ rfl hown a0 n0 c0 (l0.map (Value.int .u8)) rfl (by simp [s0]) HN.out (HC.out _ (hbd.trans (hbe.mono hbd.size))) (ints_oneCell _ _) (by omega) ?_; intro w1 hown1 hg1; have hbe1 := hbe.grown hg1 hbe.size (by simp); clear hg1; simp only [Nat.zero_add, List.nil_append] at hown1)
    | (at_builtin; refine wpList_append_fits_any _ rfl (.tmp 47) (.tmp 48) 22 rfl wd.heap.size 5 i5 1 Try.underlying22 hi5 hz1 wd.heap.size n0 (n0 + n1) _ rfl hown1 (some ⟨w.heap.size, 0, none⟩) n1 n1 (l1.map (Value.int .u8)) rfl (by simp [s1]) (by simp) (fun ad had k u hk => cell_later hbe1 (copied s1 hcl HG.out ad had k u hk)) (ints_oneCell _ _) (by omega) ?_; intro w2 hown2 hg2; have hbe2 := hbe1.grown hg2 hbe1.size (by simp); clear hg2))
  have P1 := prep_of_copy (B := w.heap.size) (Nat.le_refl _) HG.out (by rw [hcl, s1]) (by rw [s1]; omega) I1.byte
  have T1 : Text w2 w.heap.size n1 n1 (byt l1) := by
    rcases P1 with ⟨h, _⟩ | ⟨g, h, _, T⟩
    · cases h
    · cases h; rw [s1] at T; exact T.below hbe2 hlt
  have T2 : Text w2 wd.heap.size (n0 + n1) (n0 + n1) (byt (l0 ++ l1)) := text_of_own (l := l0 ++ l1) (by simpa using hown2) (bytes_app I0.byte I1.byte) (by omega) (by simp; omega)
  have hv : brk (byt (l0 ++ l1)) (n0 + j) = brk (byt l1) j := by rw [← s0]; exact brk_shift l0 l1 j
  obtain ⟨v, hv1⟩ : ∃ v, v = brk (byt l1) j := ⟨_, rfl⟩
  have C1 := model_any w.heap.size n1 n1 j (byt l1) w2 T1 hj
  have HB2 : Hid (Below w.heap.size w w2) := hbd.trans (hbe2.mono hbd.size)
  have HT1 : Hid (Text w2 w.heap.size n1 n1 (byt l1)) := T1
  have HT2 : Hid (Text w2 wd.heap.size (n0 + n1) (n0 + n1) (byt (l0 ++ l1))) := T2
  have HV1 : Hid (brk (byt l1) j = v) := hv1.symm
  have HV2 : Hid (brk (byt (l0 ++ l1)) (n0 + j) = v) := by show _ = v; rw [hv]; exact hv1.symm
  rw [← hv1] at C1
  have hlt2 := T2.lt
  have hlt1 := T1.lt
  clear hv1 hv T1 T2 P1 HG hown hown1 hown2 hbm hbd hbe hbe1 hbe2 hrow hcl
  refine C1.mono ?_
  clear C1
  rintro e w' ⟨rfl, rfl⟩
  go_wp2_with fail
  refine (zzBreakAt_at w.heap.size n1 n1 j (byt l1) w2 HT1.out hj _ rfl v HV1.out).mono ?_
  rintro e w3 ⟨rfl, h3⟩
  have HT3 : Hid (Text w3 wd.heap.size (n0 + n1) (n0 + n1) (byt (l0 ++ l1))) := HT2.out.below h3 hlt2
  have HB3 : Hid (Below w.heap.size w w3) := HB2.out.trans (h3.mono HB2.out.size)
  clear h3
  go_wp2_with fail
  refine (zzBreakAt_at wd.heap.size (n0 + n1) (n0 + n1) (n0 + j) (byt (l0 ++ l1)) w3 HT3.out (by omega) _ (by omega) v HV2.out).mono ?_
  rintro e w4 ⟨rfl, h4⟩
  have HB4 : Hid (Below w.heap.size w w4) := HB3.out.trans (h4.mono HB3.out.size)
  clear h4
  go_wp2
  go_ret
  exact ⟨rfl, HB4.out⟩

end Go.Proofs.Qxb6617877a
