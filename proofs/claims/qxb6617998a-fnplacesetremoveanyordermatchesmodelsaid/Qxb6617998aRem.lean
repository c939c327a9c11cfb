/-
  ZZPlaceSetRemove (function 20), clearBit (22), widened (13).
-/
import Derived.Test.Qxb6617998aOwn
import Derived.Laws.CopyOwn
namespace Go.Proofs.Qxb6617998a
open Go.RowKit Go.Deep Plain
set_option linter.unusedVariables false

theorem zzremove_any (B o n cap L i : Nat) (G : Nat → Nat) (f : Nat → Nat) (w : World) (hO : Own B w o n G (cl L) (lv f)) (hBs : B ≤ w.heap.size) (hn : n ≤ 1000000) (hL : L ≤ 1000000) (hi : i / 64 < L) (hf : ∀ x, f x < 18446744073709551616) :
    Calls Try.prog 20 #[.slice (some ⟨o, 0, none⟩) n cap, .int .i64 i] w fun e w' => e = .returned (.slice (some ⟨o, 0, none⟩) n cap) ∧ Own B w' o n G (cl L) (lv (clr f i)) ∧ Below B w w' ∧ w.heap.size ≤ w'.heap.size := by
  have hb : Below w.heap.size w (w.alloc (.cells #[.slice (some ⟨o, 0, none⟩) n cap] 40)) := (Below.refl _ _).alloc (Nat.le_refl _) _
  have hO1 := hO.below hb
  have hc : (w.alloc (.cells #[.slice (some ⟨o, 0, none⟩) n cap] 40)).cell? ⟨w.heap.size, 0, none⟩ = some (.slice (some ⟨o, 0, none⟩) n cap) := by simp
  have C := remove_any B w.heap.size o n cap L i G f _ hO1 hc hn hL hi hf
  have hG : ∀ k, k < n → G k ≠ w.heap.size := fun k hk => Nat.ne_of_lt (hO.rows k hk).lt
  have HG : Hid (∀ k, k < n → G k ≠ w.heap.size) := hG
  have HC : Hid ((w.alloc (.cells #[.slice (some ⟨o, 0, none⟩) n cap] 40)).cell? ⟨w.heap.size, 0, none⟩ = some (.slice (some ⟨o, 0, none⟩) n cap)) := hc
  clear hO hb hO1 hc hG
  go_enter Try.func20, Try.ntmps20
  go_wp2_with fail
  refine C.mono ?_
  clear C
  rintro e w1 ⟨rfl, h1, h2, h3, h4⟩
  have c1 : w1.cell? ⟨w.heap.size, 0, none⟩ = some (.slice (some ⟨o, 0, none⟩) n cap) := (World.cell?_of_block (w := w.alloc (.cells #[.slice (some ⟨o, 0, none⟩) n cap] 40)) (a := ⟨w.heap.size, 0, none⟩) (h4 _ HG.out)).trans HC.out
  have H1 : Hid (Own B w1 o n G (cl L) (lv (clr f i))) := h1
  have H2 : Hid (Below B w w1) := ((Below.refl _ _).alloc hBs _).trans h2
  have H3 : Hid (w.heap.size ≤ w1.heap.size) := by show _ ≤ _; rw [h3]; simp
  clear h1 h2 h3 h4
  go_wp2
  go_ret
  exact ⟨rfl, H1.out, H2.out, H3.out⟩

/-- clearBit of a row of the call's own. -/
theorem clearBit_any (g L i : Nat) (f : Nat → Nat) (w : World) (hr : w.rowIs g 34 L (fun j => .int .u64 (f j : Nat))) (hi : i / 64 < L) (hL : L ≤ 1000000) (hf : ∀ x, f x < 18446744073709551616) :
    Calls Try.prog 22 #[.slice (some ⟨g, 0, none⟩) L L, .int .i64 i] w fun e w' => e = .returned (.tuple #[]) ∧ w'.rowIs g 34 L (fun j => .int .u64 (clr f i j : Nat)) ∧ w.grownBy w' (some g) := by
  have c2 := hr.cell hi
  have f2 := hr.frozen (i / 64)
  have hy := hf (i / 64)
  have HR : Hid (w.rowIs g 34 L (fun j => .int .u64 (f j : Nat))) := hr
  obtain ⟨y, hye⟩ : ∃ y, y = f (i / 64) := ⟨_, rfl⟩
  rw [← hye] at c2 hy
  have han := andNot_eq y (i % 64) hy (by omega)
  obtain ⟨v, hv⟩ : ∃ v, v = clrw y (i % 64) := ⟨_, rfl⟩
  rw [← hv] at han
  have HV : Hid (v = clrw (f (i / 64)) (i % 64)) := by show v = _; rw [hv, hye]
  clear hr hye hv
  go_enter Try.func22, Try.ntmps22
  go_wp2
  go_end0
  refine ⟨rfl, (HR.out.set (i / 64) _).congr fun j hj => ?_, ?_⟩
  · unfold clr
    by_cases e : j = i / 64
    · rw [if_pos e, if_pos e, e, ← HV.out]
    · rw [if_neg e, if_neg e]
  · exact ⟨rfl, rfl, rfl, by simp [World.setCell], fun k _ hk => heap_setCell_other w ⟨g, i / 64, none⟩ k _ (fun e => hk (by simp [e]))⟩

theorem Try.info34 : (Try.prog.info? 34).map (fun i => (i.zero, i.size, i.bytes)) = some (some (.int .u64 0), 1, 8) := by kernel_rfl
theorem Try.size34 : (Try.prog.info? 34).map (·.size) = some 1 := by kernel_rfl
theorem Try.info27 : (Try.prog.info? 27).map (fun i => (i.zero, i.size, i.bytes)) = some (some (.slice none 0 0), 1, 24) := by kernel_rfl

theorem rowIs_of_full {w : World} {base g n : Nat} {e : TypeId} {z : Value} (hz : z.cells = #[z]) (h : w.ownsRow base e 1 (.slice (some ⟨g, 0, none⟩) n n) n (madeCells z.cells (n * 1)).toList) : w.rowIs g e n (fun _ => z) := by
  rcases h.2 with ⟨h', _⟩ | ⟨g', cap', cur, h', _, hg, _, _, hcs, htake⟩
  · simp at h'
  · simp only [Value.slice.injEq, Option.some.injEq, Addr.mk.injEq, and_true, true_and] at h'
    obtain ⟨rfl, rfl⟩ := h'
    refine ⟨cur, hg, by simpa using hcs, fun i hi => ?_⟩
    have hcs' : cur.size = n := by simpa using hcs
    have e1 : cur.toList = List.replicate n z := by
      have ht : cur.toList.take (n * 1) = cur.toList := List.take_of_length_le (by simp [hcs'])
      rw [ht, hz, toList_madeCells_one] at htake
      simpa using htake
    have : cur[i]? = cur.toList[i]? := by simp
    rw [this, e1, List.getElem?_replicate, if_pos hi]

theorem row_list {w : World} {g n : Nat} {e : TypeId} {F : Nat → Value} (h : w.rowIs g e n F) : ∃ cur : List Value, w.heap[g]? = some (.cells cur.toArray e (0, 0)) ∧ cur.length = n := by
  obtain ⟨c, hb, hn, _⟩ := h
  exact ⟨c.toList, by simpa using hb, by simpa using hn⟩

theorem rowIs_of_splice {w : World} {g n : Nat} {e : TypeId} {cur : List Value} {F : Nat → Value} (hc : cur.length = n) (h : w.heap[g]? = some (.cells (splice cur 0 ((List.range n).map F)).toArray e (0, 0))) : w.rowIs g e n F := by
  have e1 : splice cur 0 ((List.range n).map F) = (List.range n).map F := by simp [splice, ← hc]
  rw [e1] at h
  refine ⟨_, h, by simp, fun i hi => by simp [hi]⟩

theorem range_cells {w : World} {ad : Addr} {n : Nat} {F : Nat → Value} (h : ∀ j, j < n → w.cell? (ad.add j) = some (F j)) : ∀ j v, ((List.range n).map F)[j]? = some v → w.cell? (ad.add j) = some v := by
  intro j v hv
  have hj : j < n := by
    have := (List.getElem?_eq_some_iff.1 hv).1
    simpa using this
  rw [h j hj]
  simpa [hj] using hv

theorem add_zero_block (g j : Nat) : (⟨g, 0, none⟩ : Addr).add j = ⟨g, j, none⟩ := by unfold Addr.add; split <;> simp_all

theorem one_cells (n : Nat) (f : Nat → Nat) : ∀ v ∈ (List.range n).map (fun j => Value.int .u64 (f j : Nat)), v.oneCell' = true := by
  intro v hv
  obtain ⟨_, _, rfl⟩ := List.mem_map.1 hv
  rfl

theorem below_of_grown {w w' : World} {row : Option Nat} (h : w.grownBy w' row) (hr : ∀ k, row = some k → w.heap.size ≤ k) : Below w.heap.size w w' :=
  (Below.refl _ _).grown h (Nat.le_refl _) hr

theorem widened_any (B o n cap L : Nat) (G : Nat → Nat) (f : Nat → Nat) (w : World) (hO : Own B w o n G (cl L) (lv f)) (hn : 1 ≤ n) (hL : L ≤ 1000000) :
    Calls Try.prog 13 #[.slice (some ⟨o, 0, none⟩) n cap, .int .i64 L] w fun e w' => ∃ g, e = .returned (.slice (some ⟨g, 0, none⟩) L L) ∧ w.heap.size ≤ g ∧ w'.rowIs g 34 L (fun j => .int .u64 (f j : Nat)) ∧ Below w.heap.size w w' := by
  obtain ⟨i34, hi, hz0, hz1, hz2⟩ := info_parts Try.info34
  have hb : i34.bytes * L ≤ 281474976710656 := by rw [hz2]; omega
  have HO : Hid (Own B w o n G (cl L) (lv f)) := hO
  have hnn : (0 : Int) < (n : Int) := by omega
  have hn0 : 0 < n := hn
  clear hO
  go_enter Try.func13, Try.ntmps13
  go_wp2_with (first
    | (at_make; refine wpList_make_full _ rfl _ _ 27 rfl w.heap.size 34 i34 (.int .u64 0) 1 Try.underlying27 hi hz0 hz1 .i64 .i64 _ _ L rfl rfl rfl rfl hb (by unfold maxLen; omega) (Nat.le_refl _) ?_; intro wm hown hgm; obtain ⟨cur, hrow, hcl⟩ := row_list (rowIs_of_full rfl hown); have hbm := below_of_grown hgm (by simp); have c0 := (HO.out.below hbm).outer 0 hn0; clear hown hgm)
    | (refine wpList_copy_splice rfl (.tmp 11) (.tmp 14) 27 27 rfl 34 Try.underlying27 Try.size34 _ _ _ _ _ _ rfl rfl w.heap.size 0 cur 34 hrow ((List.range L).map (fun j => Value.int .u64 (f j : Nat))) (by simp [cl]) (fun _ => ⟨rfl, _, rfl, range_cells (fun j hj => by rw [add_zero_block]; exact ((HO.out.below hbm).rows 0 hn0).cell hj)⟩) (by simp [hcl]) (one_cells _ _) w.heap.size w hbm (Nat.le_refl _) ?_; intro wc HG hbc))
  go_ret
  exact ⟨_, rfl, Nat.le_refl _, rowIs_of_splice hcl HG.out, hbc⟩

end Go.Proofs.Qxb6617998a
