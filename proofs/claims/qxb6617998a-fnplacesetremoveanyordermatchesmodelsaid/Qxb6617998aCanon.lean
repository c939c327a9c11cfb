/-
  canon (function 15).
-/
import Derived.Test.Qxb6617998aRem
namespace Go.Proofs.Qxb6617998a
open Go.RowKit Go.Deep Plain
set_option linter.unusedVariables false

/-- How many levels a set of L words has. -/
structure Tall (L n : Nat) : Prop where
  pos : 1 ≤ n
  top : cl L (n - 1) = 1
  mid : ∀ l, l < n - 1 → cl L l ≠ 1

theorem Tall.uniq {L n m : Nat} (h : Tall L n) (k : Tall L m) : n = m := by
  have h1 := h.pos
  have k1 := k.pos
  rcases Nat.lt_trichotomy n m with e | e | e
  · exact absurd h.top (k.mid (n - 1) (by omega))
  · exact e
  · exact absurd k.top (h.mid (m - 1) (by omega))

theorem or_eq (y b : Nat) (hy : y < 18446744073709551616) (hb : b < 64) : bits .or .u64 (y : Int) (IntKind.u64.wrap ((2 : Int) ^ b)) = ((y ||| 2 ^ b : Nat) : Int) := by
  rw [wrap_pow b hb, u64_or_nat y _ hy (pow_lt64 hb)]

theorem row_kept {w w' : World} {b n r : Nat} {t : TypeId} {F : Nat → Value} (h : w.rowIs b t n F) (hg : w.grownBy w' (some r)) (hne : b ≠ r) : w'.rowIs b t n F := h.of_block (hg.block b h.lt (by simp [hne]))

/-- The rows below the outer one. -/
structure Rows (w : World) (k : Nat) (G len : Nat → Nat) (F : Nat → Nat → Nat) : Prop where
  row : ∀ l, l < k → w.rowIs (G l) 34 (len l) (fun j => .int .u64 (F l j : Nat))
  inj : ∀ a b, a < k → b < k → G a = G b → a = b

theorem Rows.below {w w' : World} {k : Nat} {G len : Nat → Nat} {F : Nat → Nat → Nat} (h : Rows w k G len F) (hb : Below w.heap.size w w') : Rows w' k G len F := ⟨fun l hl => (h.row l hl).of_block (hb.block _ (h.row l hl).lt), h.inj⟩

/-- A row of slices is no row of words. -/
theorem not_outer {w : World} {base n b m : Nat} {v : Value} {xs : List Value} {F : Nat → Value} (h : w.ownsRow base 27 1 v n xs) (hr : w.rowIs b 34 m F) : v.ownBlock ≠ some b := by
  intro e
  rcases h.2 with ⟨rfl, _⟩ | ⟨g, cap, cur, rfl, _, hg, _⟩
  · simp [Value.ownBlock] at e
  · simp only [Value.ownBlock, Option.some.injEq] at e
    obtain ⟨c, hb, _, _⟩ := hr
    rw [e, hb] at hg
    simp at hg

theorem Rows.grown {w w' : World} {base n k : Nat} {v : Value} {xs : List Value} {G len : Nat → Nat} {F : Nat → Nat → Nat} (h : Rows w k G len F) (ho : w.ownsRow base 27 1 v n xs) (hg : w.grownBy w' v.ownBlock) : Rows w' k G len F :=
  ⟨fun l hl => (h.row l hl).of_block (hg.block _ (h.row l hl).lt (fun e => not_outer ho (h.row l hl) e.symm)), h.inj⟩

/-- One level more. -/
theorem Rows.push {w : World} {k g : Nat} {G len : Nat → Nat} {F : Nat → Nat → Nat} (h : Rows w k G len F) (hr : w.rowIs g 34 (len k) (fun j => .int .u64 (F k j : Nat))) (hne : ∀ l, l < k → G l ≠ g) : Rows w (k + 1) (fun l => if l = k then g else G l) len F := by
  refine ⟨fun l hl => ?_, fun a b ha hb e => ?_⟩
  · by_cases e : l = k
    · subst e; simpa using hr
    · simpa [e] using h.row l (by omega)
  · by_cases ea : a = k <;> by_cases eb : b = k
    · omega
    · subst ea
      simp [eb] at e
      exact absurd e.symm (hne b (by omega))
    · subst eb
      simp [ea] at e
      exact absurd e (hne a (by omega))
    · simp [ea, eb] at e
      exact h.inj a b (by omega) (by omega) e

theorem map_push (k g : Nat) (G len : Nat → Nat) : (List.range (k + 1)).map (fun l => Value.slice (some ⟨if l = k then g else G l, 0, none⟩) (len l) (len l)) = (List.range k).map (fun l => Value.slice (some ⟨G l, 0, none⟩) (len l) (len l)) ++ [.slice (some ⟨g, 0, none⟩) (len k) (len k)] := by
  rw [List.range_succ, List.map_append]
  congr 1
  · apply List.map_congr_left
    intro l hl
    have : l ≠ k := by have := List.mem_range.1 hl; omega
    simp [this]
  · simp

/-- The length in a slot: for a loop's measure. -/
def lenOf : Value → Nat | .slice _ m _ => m | _ => 0

theorem grown_of_below {w w' : World} (h : Below w.heap.size w w') (row : Option Nat) : w.grownBy w' row := ⟨h.os, h.tape, h.output, h.size, fun k hk _ => h.block k hk⟩
theorem own_below {w w' : World} {base : Nat} {e : TypeId} {size : Nat} {v : Value} {n : Nat} {xs : List Value} (h : w.ownsRow base e size v n xs) (hb : Below w.heap.size w w') : w'.ownsRow base e size v n xs :=
  h.kept (grown_of_below hb (some (match v.ownBlock with | some k => k + 1 | none => 0))) (by cases hv : v.ownBlock <;> simp)

theorem one_new (w : World) (x : Value) (t : TypeId) : ∀ j u, [x][j]? = some u → (w.alloc (.cells #[x] t)).cell? ((⟨w.heap.size, 0, none⟩ : Addr).add j) = some u := by
  intro j u hj
  match j, hj with
  | 0, hj => simp at hj; subst hj; simp [Addr.add]

/-- What canon's loop holds when k levels are made. -/
structure Mid (W : World) (w : World) (L k : Nat) (f : Nat → Nat) (G : Nat → Nat) (v : Value) : Prop where
  own : w.ownsRow W.heap.size 27 1 v k ((List.range k).map (fun l => Value.slice (some ⟨G l, 0, none⟩) (cl L l) (cl L l)))
  rows : Rows w k G (cl L) (lv f)
  lo : ∀ l, 1 ≤ l → l < k → W.heap.size ≤ G l
  below : Below W.heap.size W w
  size : cl L (k - 1) + (k - 1) ≤ L
  pos : 1 ≤ cl L (k - 1)
  mid : ∀ l, l < k - 1 → cl L l ≠ 1

theorem Mid.step {W wo wr w2 : World} {L k m : Nat} {f : Nat → Nat} {G : Nat → Nat} {v v' : Value} {ob : Obj} (h : Mid W wo L k f G v) (hk : 1 ≤ k) (hm : m = cl L (k - 1)) (hm2 : 1 < m) (hz : ∀ i, L ≤ i → f i = 0)
    (hr : wr.rowIs wo.heap.size 34 ((m + 63) / 64) (fun x => .int .u64 (Plain.part (lv f (k - 1)) m x : Nat))) (hb : Below wo.heap.size wo wr)
    (ho : (wr.alloc ob).ownsRow W.heap.size 27 1 v k ((List.range k).map (fun l => Value.slice (some ⟨G l, 0, none⟩) (cl L l) (cl L l))))
    (ho' : w2.ownsRow W.heap.size 27 1 v' (k + 1) ((List.range k).map (fun l => Value.slice (some ⟨G l, 0, none⟩) (cl L l) (cl L l)) ++ [.slice (some ⟨wo.heap.size, 0, none⟩) ((m + 63) / 64) ((m + 63) / 64)])) (hg : (wr.alloc ob).grownBy w2 v.ownBlock) :
    Mid W w2 L (k + 1) f (fun l => if l = k then wo.heap.size else G l) v' := by
  have hck : cl L k = (m + 63) / 64 := by
    obtain ⟨q, rfl⟩ : ∃ q, k = q + 1 := ⟨k - 1, by omega⟩
    rw [hm]; rfl
  have hlk : lv f k = up (lv f (k - 1)) := by
    obtain ⟨q, rfl⟩ : ∃ q, k = q + 1 := ⟨k - 1, by omega⟩
    rfl
  have hrow : wr.rowIs wo.heap.size 34 (cl L k) (fun j => .int .u64 (lv f k j : Nat)) := by
    rw [hck, hlk]
    exact hr.congr fun j _ => by rw [part_end _ m j (fun i hi => lv_zero f L hz (k - 1) i (by rw [← hm]; exact hi))]
  have hR : Rows wr (k + 1) (fun l => if l = k then wo.heap.size else G l) (cl L) (lv f) := (h.rows.below hb).push hrow (fun l hl => Nat.ne_of_lt (h.rows.row l hl).lt)
  have hWo : W.heap.size ≤ wo.heap.size := h.below.size
  have hba : Below wr.heap.size wr (wr.alloc ob) := (Below.refl _ _).alloc (Nat.le_refl _) _
  refine ⟨?_, (hR.below hba).grown ho hg, fun l h1 h2 => ?_, ?_, ?_, ?_, fun l hl => ?_⟩
  · rw [map_push, hck]; exact ho'
  · by_cases e : l = k
    · simp [e]; exact hWo
    · simp [e]; exact h.lo l h1 (by omega)
  · refine ((h.below.trans (hb.mono hWo)).alloc (Nat.le_trans hWo hb.size) ob).grown hg (by simp; have := hb.size; omega) fun r hr => ?_
    exact (ho.lt r hr).1
  · have := h.size
    rw [← hm] at this
    simp only [Nat.add_sub_cancel]
    rw [hck]; omega
  · simp only [Nat.add_sub_cancel]
    rw [hck]; omega
  · by_cases e : l = k - 1
    · subst e; rw [← hm]; omega
    · exact h.mid l (by simp at hl; omega)

set_option maxHeartbeats 2000000 in
set_option maxRecDepth 100000 in
theorem canon_any (g L : Nat) (f : Nat → Nat) (w : World) (hr : w.rowIs g 34 L (fun j => .int .u64 (f j : Nat))) (hL1 : 1 ≤ L) (hL : L ≤ 1000000) (hz : ∀ i, L ≤ i → f i = 0) :
    Calls Try.prog 15 #[.slice (some ⟨g, 0, none⟩) L L] w fun e w' => ∃ n G v, e = .returned v ∧ Mid w w' L n f G v ∧ 1 ≤ n ∧ cl L (n - 1) = 1 ∧ G 0 = g := by
  obtain ⟨i34, hi, hz0, hz1, hz2⟩ := info_parts Try.info34
  obtain ⟨i27, hj, hy0, hy1, hy2⟩ := info_parts Try.info27
  have HR : Hid (w.rowIs g 34 L (fun j => .int .u64 (f j : Nat))) := hr
  have HZ : Hid (∀ i, L ≤ i → f i = 0) := hz
  clear hr hz
  go_enter Try.func15, Try.ntmps15
  go_wp2
  go_loopw [3, 4] (fun a3 a4 wr => ∃ (k : Nat) (G : Nat → Nat), 1 ≤ k ∧ a4 = .slice (some ⟨G (k - 1), 0, none⟩) (cl L (k - 1)) (cl L (k - 1)) ∧ Mid w wr L k f G a3 ∧ G 0 = g) (fun _ a4 _ => lenOf a4)
  case atStart =>
    refine ⟨1, fun _ => g, Nat.le_refl _, rfl, ⟨?_, ⟨fun l hl => ?_, fun a b ha hb _ => by omega⟩, fun l h1 h2 => by omega, (Below.refl _ _).alloc (Nat.le_refl _) _, Nat.le_refl _, hL1, fun l hl => by omega⟩, rfl⟩
    · exact World.ownsRow_lit (base := w.heap.size) (e := 27) (size := 1) w #[.slice (some ⟨g, 0, none⟩) L L] 1 (Nat.le_refl _) (by decide) rfl
    · obtain rfl : l = 0 := by omega
      exact HR.out.alloc _
  case round =>
    obtain ⟨k, G, hk, rfl, hM, hG0⟩ := hrel
    have HM : Hid (Mid w wr L k f G u3) := hM
    have HG0 : Hid (G 0 = g) := hG0
    obtain ⟨m, hm⟩ : ∃ m, m = cl L (k - 1) := ⟨_, rfl⟩
    have hm1 : 1 ≤ m := by rw [hm]; exact hM.pos
    have hm2 : m + (k - 1) ≤ L := by rw [hm]; exact hM.size
    rw [← hm]
    have HMm : Hid (m = cl L (k - 1)) := hm
    clear hM hG0 hm
    obtain ⟨wo, hwo⟩ : ∃ wo, wo = wr := ⟨_, rfl⟩
    subst hwo
    by_cases hlt : 1 < m
    · have hb : i34.bytes * ((m + 63) / 64) ≤ 281474976710656 := by rw [hz2]; omega
      go_wp2_with (at_make; refine wpList_make_full _ rfl _ _ 27 rfl wo.heap.size 34 i34 (.int .u64 0) 1 Try.underlying27 hi hz0 hz1 .i64 .i64 _ _ ((m + 63) / 64) rfl rfl (by omega) (by omega) hb (by unfold maxLen; omega) (Nat.le_refl _) ?_; intro wm hown hgm)
      have hbm : Below wo.heap.size wo wm := below_of_grown hgm (by simp)
      have HBm : Hid (Below wo.heap.size wo wm) := hbm
      have hrm := rowIs_of_full rfl hown
      have hlt2 := hrm.lt
      have HRm : Hid (wm.rowIs wo.heap.size 34 ((m + 63) / 64) (fun x => .int .u64 (Plain.part (lv f (k - 1)) 0 x : Nat))) := hrm.congr (fun x _ => by rw [part_zero]; rfl)
      have hrow := HM.out.rows.row (k - 1) (by omega)
      rw [← HMm.out] at hrow
      have HRow : Hid (wo.rowIs (G (k - 1)) 34 m (fun j => .int .u64 (lv f (k - 1) j : Nat))) := hrow
      have hgne : G (k - 1) < wo.heap.size := hrow.lt
      clear hown hgm hbm hrm hrow
      go_loopw [6] (fun a6 wr => ∃ q : Nat, q ≤ m ∧ a6 = .int .i64 q ∧ wr.rowIs wo.heap.size 34 ((m + 63) / 64) (fun x => .int .u64 (Plain.part (lv f (k - 1)) q x : Nat)) ∧ Below wo.heap.size wo wr) (fun a6 _ => m - (intOf a6).toNat)
      case atStart => exact ⟨0, Nat.zero_le _, rfl, HRm.out, HBm.out⟩
      case round =>
        obtain ⟨q, hq, rfl, hro, hbe⟩ := hrel
        have HRo : Hid (wr.rowIs wo.heap.size 34 ((m + 63) / 64) (fun x => .int .u64 (Plain.part (lv f (k - 1)) q x : Nat))) := hro
        have HBe : Hid (Below wo.heap.size wo wr) := hbe
        clear hro hbe
        by_cases hqm : q < m
        · obtain ⟨y, hy⟩ : ∃ y, y = lv f (k - 1) q := ⟨_, rfl⟩
          have cq : wr.cell? ⟨G (k - 1), q, none⟩ = some (.int .u64 (y : Nat)) := by rw [hy]; exact cell_later HBe.out (HRow.out.cell hqm)
          have HY : Hid (y = lv f (k - 1) q) := hy
          clear hy
          by_cases hy0' : y = 0
          · subst hy0'
            go_wp2
            go_roundw
            case rel => exact ⟨q + 1, by omega, by go_num, HRo.out.congr (fun x _ => by
              by_cases e : x = q / 64
              · subst e; rw [part_no _ _ HY.out.symm]
              · rw [part_other _ _ _ e]), HBe.out⟩
            case measure => simp [intOf]; omega
          · have hyb : ((y : Int) != 0) = true := by simp; omega
            obtain ⟨z, hz'⟩ : ∃ z, z = Plain.part (lv f (k - 1)) q (q / 64) := ⟨_, rfl⟩
            have cz : wr.cell? ⟨wo.heap.size, q / 64, none⟩ = some (.int .u64 (z : Nat)) := by rw [hz']; exact HRo.out.cell (by omega)
            have fz := HRo.out.frozen (q / 64)
            have hzl : z < 18446744073709551616 := by rw [hz']; exact part_lt _ _ _
            have hor := or_eq z (q % 64) hzl (by omega)
            have HZ' : Hid (z = Plain.part (lv f (k - 1)) q (q / 64)) := hz'
            clear hz'
            go_wp2
            go_roundw
            case rel => exact ⟨q + 1, by omega, by go_num, (HRo.out.set (q / 64) _).congr (fun x _ => by
              by_cases e : x = q / 64
              · subst e; rw [if_pos rfl, part_yes _ _ (by rw [← HY.out]; exact hy0'), ← HZ'.out]
              · rw [if_neg e, part_other _ _ _ e]), HBe.out.setCell (Nat.le_refl _) _⟩
            case measure => simp [intOf]; omega
        · obtain rfl : q = m := by omega
          go_wp2_with (at_builtin; refine wpList_append_own _ rfl _ _ 22 rfl w.heap.size 27 i27 (.slice none 0 0) 1 24 Try.underlying22 hj hy0 hy1 hy2 rfl (by decide) _ _ _ rfl ((own_below HM.out.own HBe.out).alloc _) ⟨wr.heap.size, 0, none⟩ 1 1 [.slice (some ⟨wo.heap.size, 0, none⟩) ((q + 63) / 64) ((q + 63) / 64)] rfl rfl (one_new _ _ _) ?c2 ?c3 ?c4 ?c5 ?_)
          case c2 => intro u hu; simp at hu; subst hu; rfl
          case c3 => unfold maxLen; omega
          case c4 => omega
          case c5 => have h1 := HM.out.below.size; have h2 := HBe.out.size; simp; omega
          intro v' w2 hown' hgrow _
          have R := HM.out.step hk HMm.out hlt HZ.out HRo.out HBe.out ((own_below HM.out.own HBe.out).alloc _) hown' hgrow
          have hck : cl L k = (q + 63) / 64 := by
            obtain ⟨t, rfl⟩ : ∃ t, k = t + 1 := ⟨k - 1, by omega⟩
            rw [HMm.out]; rfl
          have HCK : Hid (cl L k = (q + 63) / 64) := hck
          have HRR : Hid (Mid w w2 L (k + 1) f (fun l => if l = k then wo.heap.size else G l) v') := R
          clear hown' hgrow R hck
          go_wp2
          go_roundw
          case rel => exact ⟨k + 1, _, by omega, by simp only [Nat.add_sub_cancel, if_true]; rw [HCK.out], HRR.out, by rw [if_neg (by omega)]; exact HG0.out⟩
          case measure => simp [lenOf]; omega
    · obtain rfl : m = 1 := by omega
      go_wp2
      go_ret
      exact ⟨k, G, _, rfl, HM.out, hk, HMm.out.symm, HG0.out⟩

end Go.Proofs.Qxb6617998a
