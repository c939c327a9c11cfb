/-
  yamlnode.lineStarts (function 19), ZZlineStarts (9): a new slice that holds 'starts'; nothing old has turned.
-/
import Derived.Test.Qxb6617877aBrk
namespace Go.Proofs.Qxb6617877a
open Go.RowKit Plain
set_option linter.unusedVariables false

theorem Try.info3 : (Try.prog.info? 3).map (fun i => (i.zero, i.size, i.bytes)) = some (some (.int .i64 0), 1, 8) := by kernel_rfl

def firstF (f : Nat → Int) : Int := if f 0 = 239 ∧ f 1 = 187 ∧ f 2 = 191 then 3 else 0
def startsF (f : Nat → Int) (k : Nat) : List Int := firstF f :: tail f k
theorem startsF_len (f : Nat → Int) (k : Nat) : (startsF f k).length ≤ k + 1 := by
  have := tail_length f k
  simp [startsF]; omega
theorem startsF_step0 (f : Nat → Int) (i : Nat) (h : sync f i) (hb : brk f i = 0) : startsF f (i + 1) = startsF f i := by
  unfold startsF; rw [tail_step0 f i h hb]
theorem startsF_step (f : Nat → Int) (i : Nat) (h : sync f i) (hb : 0 < brk f i) : startsF f (i + brk f i) = startsF f i ++ [((i + brk f i : Nat) : Int)] := by
  unfold startsF; rw [tail_step f i h hb]; rfl

theorem brk_fits (f : Nat → Int) (k n : Nat) (hk : k < n) (hp : ∀ i, n ≤ i → f i = 0) : k + brk f k ≤ n := by
  have hle := brk_le f k
  have p1 := hp (k + 1)
  have p2 := hp (k + 2)
  have : brk f k ≤ 1 ∨ brk f k = 2 ∨ brk f k = 3 := by omega
  rcases this with e | e | e
  · omega
  · rcases (brk2 f k).1 e with ⟨_, h⟩ | ⟨_, h⟩ <;> omega
  · obtain ⟨_, h, h'⟩ := (brk3 f k).1 e
    omega

theorem grown_of_below {w w' : World} (h : Below w.heap.size w w') (row : Option Nat) : w.grownBy w' row := ⟨h.os, h.tape, h.output, h.size, fun k hk _ => h.block k hk⟩
theorem own_below {w w' : World} {base : Nat} {e : TypeId} {size : Nat} {v : Value} {n : Nat} {xs : List Value} (h : w.ownsRow base e size v n xs) (hb : Below w.heap.size w w') : w'.ownsRow base e size v n xs :=
  h.kept (grown_of_below hb (some (match v.ownBlock with | some k => k + 1 | none => 0))) (by cases hv : v.ownBlock <;> simp)

theorem Text.below {w w' : World} {g n c B : Nat} {f : Nat → Int} (T : Text w g n c f) (hb : Below B w w') (hg : g < B) : Text w' g n c f :=
  ⟨T.cap, T.small, fun i hi => (hb.cell (p := ⟨g, i, none⟩) hg).trans (T.cell i hi), T.byte, T.past, Nat.lt_of_lt_of_le T.lt hb.size⟩

/-- What a loop's round leaves where no break begins at k. -/
theorem rel_none {w wr w1 : World} {f : Nat → Int} {k B : Nat} {v : Value} (hs : sync f k) (hb : brk f k = 0) (hB : B ≤ wr.heap.size)
    (hown : wr.ownsRow B 3 1 v (startsF f k).length ((startsF f k).map (Value.int .i64))) (hnx : Below B w wr) (h1 : Below wr.heap.size wr w1) :
    sync f (k + 1) ∧ w1.ownsRow B 3 1 v (startsF f (k + 1)).length ((startsF f (k + 1)).map (Value.int .i64)) ∧ Below B w w1 := by
  rw [startsF_step0 f k hs hb]
  exact ⟨sync_step0 f k hs hb, own_below hown h1, hnx.trans (h1.mono hB)⟩

theorem rel_some {w wr w1 w2 : World} {f : Nat → Int} {k B : Nat} {v v' : Value} {o : Obj} (hs : sync f k) (hb : 0 < brk f k) (hB : B ≤ wr.heap.size)
    (hnx : Below B w wr) (h1 : Below wr.heap.size wr w1) (hown : (w1.alloc o).ownsRow B 3 1 v (startsF f k).length ((startsF f k).map (Value.int .i64)))
    (hown' : w2.ownsRow B 3 1 v' ((startsF f k).length + 1) ((startsF f k).map (Value.int .i64) ++ [.int .i64 ((k + brk f k : Nat) : Int)])) (hg : (w1.alloc o).grownBy w2 v.ownBlock) :
    sync f (k + brk f k) ∧ w2.ownsRow B 3 1 v' (startsF f (k + brk f k)).length ((startsF f (k + brk f k)).map (Value.int .i64)) ∧ Below B w w2 := by
  rw [startsF_step f k hs hb]
  refine ⟨sync_step f k hs, by simpa using hown', ?_⟩
  have hB1 : B ≤ w1.heap.size := Nat.le_trans hB h1.size
  refine ((hnx.trans (h1.mono hB)).alloc hB1 o).grown hg (by simp; omega) fun r hr => ?_
  exact (hown.lt r hr).1

set_option maxHeartbeats 1000000 in
theorem lineStarts_core (g n c : Nat) (f : Nat → Int) (w : World) (T : Text w g n c f) (bom : Bool) (hF : firstF f = if bom then 3 else 0)
    (hHas : Calls Try.prog 23 #[.slice (some ⟨g, 0, none⟩) n c, .slice (some ⟨w.heap.size + 1, 0, none⟩) 3 3] ((w.alloc (.cells #[.int .i64 0] 3)).alloc (.cells #[.int .u8 239, .int .u8 187, .int .u8 191] 5 (3, 4)))
      fun e w' => e = .returned (.bool bom) ∧ w' = (w.alloc (.cells #[.int .i64 0] 3)).alloc (.cells #[.int .u8 239, .int .u8 187, .int .u8 191] 5 (3, 4))) :
    Calls Try.prog 19 #[.slice (some ⟨g, 0, none⟩) n c] w fun e w' => ∃ v, e = .returned v ∧ w'.ownsRow w.heap.size 3 1 v (startsF f n).length ((startsF f n).map (Value.int .i64)) ∧ Below w.heap.size w w' := by
  obtain ⟨i0, hi, hz0, hz1, hz2⟩ := info_parts Try.info3
  have kc := conv_const
  have hs := T.small
  have hcap := T.cap
  have hglt := T.lt
  cases bom
  all_goals
    go_enter Try.func19, Try.ntmps19
    go_wp2_with fail
    refine hHas.mono ?_
    rintro e w' ⟨rfl, rfl⟩
    go_wp2
    go_loopw [3, 4] (fun v i wr => ∃ k : Nat, k ≤ n ∧ i = .int .i64 k ∧ sync f k ∧ wr.ownsRow w.heap.size 3 1 v (startsF f k).length ((startsF f k).map (Value.int .i64)) ∧ Below w.heap.size w wr)
      (fun _ i _ => n - (intOf i).toNat)
    case atStart =>
      refine ⟨0, Nat.zero_le _, rfl, sync_zero f, ?_, ((Below.refl _ _).alloc (Nat.le_refl _) _).alloc (by simp) _⟩
      have := (World.ownsRow_lit (base := w.heap.size) (e := 3) (size := 1) w #[.int .i64 (firstF f)] 1 (Nat.le_refl _) (by decide) rfl).alloc (.cells #[.int .u8 239, .int .u8 187, .int .u8 191] 5 (3, 4))
      rw [hF] at this
      simpa [startsF, tail, hF] using this
    case round =>
      obtain ⟨k, hk, rfl, hsy, hown, hnx⟩ := hrel
      have Tr := T.below hnx hglt
      have HT : Hid (Text wr g n c f) := Tr
      have HX : Hid (Below w.heap.size w wr) := hnx
      have HO : Hid (wr.ownsRow w.heap.size 3 1 u3 (startsF f k).length ((startsF f k).map (Value.int .i64))) := hown
      have HS : Hid (sync f k) := hsy
      have hwz : w.heap.size ≤ wr.heap.size := hnx.size
      clear Tr hnx hown hsy
      have hl := startsF_len f k
      have hb3 := brk_le f k
      by_cases hlt : k < n
      · by_cases hb : brk f k = 0
        · have HB : Hid (brk f k = 0) := hb
          have hb' : ¬ (0 : Int) < (brk f k : Nat) := by omega
          clear hb
          go_wp2_with (go_at_call 21; refine (breakAt_any g n c k f _ HT.out hlt).mono ?_; rintro e w1 ⟨rfl, h1⟩)
          have R := rel_none HS.out HB.out hwz HO.out HX.out h1
          go_roundw
          case rel => exact ⟨k + 1, by omega, by go_num, R.1, R.2.1, R.2.2⟩
          case measure => simp [intOf]; omega
        · have hb' : (0 : Int) < (brk f k : Nat) := by omega
          have hbn : 0 < brk f k := by omega
          clear hb
          go_wp2_with (first
            | (go_at_call 21; refine (breakAt_any g n c k f _ HT.out hlt).mono ?_; rintro e w1 ⟨rfl, h1⟩)
            | (at_builtin; refine wpList_append_own _ rfl _ _ 24 rfl w.heap.size 3 i0 (.int .i64 0) 1 8 Try.underlying24 hi hz0 hz1 hz2 rfl (by decide) _ _ _ rfl ((own_below HO.out h1).alloc _) ⟨w1.heap.size, 0, none⟩ 1 1 [.int .i64 ((k + brk f k : Nat) : Int)] rfl rfl ?c1 ?c2 ?c3 ?c4 ?c5 ?_))
          case c1 =>
            intro j u hj
            match j, hj with
            | 0, hj => simp at hj; subst hj; simp [Addr.add]
          case c2 => intro u hu; simp at hu; subst hu; rfl
          case c3 => unfold maxLen; omega
          case c4 => omega
          case c5 => have := h1.size; simp; omega
          intro v' w2 hown' hgrow _
          have R := rel_some (v := u3) HS.out hbn hwz HX.out h1 ((own_below HO.out h1).alloc _) hown' hgrow
          have hfit := brk_fits f k n hlt T.past
          clear hown' hgrow h1
          go_wp2
          go_roundw
          case rel => exact ⟨k + brk f k, hfit, by go_num, R.1, R.2.1, R.2.2⟩
          case measure => simp [intOf]; omega
      · go_wp2
        obtain rfl : k = n := by omega
        go_ret
        exact ⟨_, rfl, HO.out, HX.out⟩

/-- lineStarts of a text that lies in memory. -/
theorem lineStarts_any (g n c : Nat) (f : Nat → Int) (w : World) (T : Text w g n c f) :
    Calls Try.prog 19 #[.slice (some ⟨g, 0, none⟩) n c] w fun e w' => ∃ v, e = .returned v ∧ w'.ownsRow w.heap.size 3 1 v (startsF f n).length ((startsF f n).map (Value.int .i64)) ∧ Below w.heap.size w w' := by
  by_cases h3 : 3 ≤ n
  · by_cases hb : f 0 = 239 ∧ f 1 = 187 ∧ f 2 = 191
    · refine lineStarts_core g n c f w T true (by simp [firstF, hb]) ?_
      have h := has_lit g 0 n c (f 0) (f 1) (f 2) 239 187 191 (w.alloc (.cells #[.int .i64 0] 3)) true T.cap h3 (Lib.cell?_alloc_marked _ (T.cell 0 (by omega))) (Lib.cell?_alloc_marked _ (T.cell 1 (by omega))) (Lib.cell?_alloc_marked _ (T.cell 2 (by omega))) (T.byte _) (T.byte _) (T.byte _) (by omega) (by omega) (by omega) (by simpa using hb)
      rw [World.size_alloc] at h
      exact h
    · refine lineStarts_core g n c f w T false (by simp [firstF, hb]) ?_
      have h := has_lit g 0 n c (f 0) (f 1) (f 2) 239 187 191 (w.alloc (.cells #[.int .i64 0] 3)) false T.cap h3 (Lib.cell?_alloc_marked _ (T.cell 0 (by omega))) (Lib.cell?_alloc_marked _ (T.cell 1 (by omega))) (Lib.cell?_alloc_marked _ (T.cell 2 (by omega))) (T.byte _) (T.byte _) (T.byte _) (by omega) (by omega) (by omega) (by simpa using hb)
      rw [World.size_alloc] at h
      exact h
  · have hp := T.past 2 (by omega)
    exact lineStarts_core g n c f w T false (by simp [firstF, hp]) (has_short _ _ _ _ _ (by omega))

/-- lineStarts of nil. -/
theorem lineStarts_nil (w : World) :
    Calls Try.prog 19 #[.slice none 0 0] w fun e w' => ∃ v, e = .returned v ∧ w'.ownsRow w.heap.size 3 1 v 1 [.int .i64 0] ∧ Below w.heap.size w w' := by
  have kc := conv_const
  go_enter Try.func19, Try.ntmps19
  go_wp2_with fail
  refine (has_short _ _ _ _ _ (by omega)).mono ?_
  rintro e w' ⟨rfl, rfl⟩
  go_wp2
  go_loop [3, 4] (fun v i => v = .slice (some ⟨w.heap.size, 0, none⟩) 1 1 ∧ i = .int .i64 0) (fun _ _ => 0)
  case atStart => exact ⟨rfl, rfl⟩
  case round =>
    obtain ⟨rfl, rfl⟩ := hrel
    go_wp2
    go_ret
    refine ⟨_, rfl, ?_, ((Below.refl _ _).alloc (Nat.le_refl _) _).alloc (by simp) _⟩
    have := (World.ownsRow_lit (base := w.heap.size) (e := 3) (size := 1) w #[.int .i64 0] 1 (Nat.le_refl _) (by decide) rfl).alloc (.cells #[.int .u8 239, .int .u8 187, .int .u8 191] 5 (3, 4))
    simpa using this

theorem zzStarts_any (g n c : Nat) (f : Nat → Int) (w : World) (T : Text w g n c f) :
    Calls Try.prog 9 #[.slice (some ⟨g, 0, none⟩) n c] w fun e w' => ∃ v, e = .returned v ∧ w'.ownsRow w.heap.size 3 1 v (startsF f n).length ((startsF f n).map (Value.int .i64)) ∧ Below w.heap.size w w' := by
  go_enter Try.func9, Try.ntmps9
  go_wp2_with fail
  refine (lineStarts_any g n c f w T).mono ?_
  rintro e w' ⟨v, rfl, h⟩
  go_wp2
  go_ret
  exact ⟨v, rfl, h⟩

theorem zzStarts_nil (w : World) :
    Calls Try.prog 9 #[.slice none 0 0] w fun e w' => ∃ v, e = .returned v ∧ w'.ownsRow w.heap.size 3 1 v 1 [.int .i64 0] ∧ Below w.heap.size w w' := by
  go_enter Try.func9, Try.ntmps9
  go_wp2_with fail
  refine (lineStarts_nil w).mono ?_
  rintro e w' ⟨v, rfl, h⟩
  go_wp2
  go_ret
  exact ⟨v, rfl, h⟩

end Go.Proofs.Qxb6617877a
