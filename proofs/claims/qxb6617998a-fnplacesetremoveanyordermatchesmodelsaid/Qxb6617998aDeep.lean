/-
  deepLevels (function 11).
-/
import Derived.Test.Qxb6617998aCanon
namespace Go.Proofs.Qxb6617998a
open Go.RowKit Go.Deep Plain
set_option linter.unusedVariables false

/-- A slice of slices of words that can be read: the call's own, or one that came in. -/
structure RL (w : World) (bo oo n : Nat) (A : Nat → Option Addr) (len cap Bk Ok : Nat → Nat) (F : Nat → Nat → Nat) : Prop where
  outer : ∀ k, k < n → w.cell? ⟨bo, oo + k, none⟩ = some (.slice (A k) (len k) (cap k))
  addr : ∀ k, k < n → 0 < len k → A k = some ⟨Bk k, Ok k, none⟩
  inner : ∀ k, k < n → ∀ j, j < len k → w.cell? ⟨Bk k, Ok k + j, none⟩ = some (.int .u64 (F k j : Nat))

theorem RL.below {w w' : World} {bo oo n : Nat} {A : Nat → Option Addr} {len cap Bk Ok : Nat → Nat} {F : Nat → Nat → Nat} (h : RL w bo oo n A len cap Bk Ok F) (hb : Below w.heap.size w w') : RL w' bo oo n A len cap Bk Ok F :=
  ⟨fun k hk => cell_later hb (h.outer k hk), h.addr, fun k hk j hj => cell_later hb (h.inner k hk j hj)⟩

theorem Own.rl {B : Nat} {w : World} {o n : Nat} {G len : Nat → Nat} {F : Nat → Nat → Nat} (h : Own B w o n G len F) : RL w o 0 n (fun k => some ⟨G k, 0, none⟩) len len G (fun _ => 0) F :=
  ⟨fun k hk => by rw [Nat.zero_add]; exact h.outer k hk, fun k _ _ => rfl, fun k hk j hj => by rw [Nat.zero_add]; exact (h.rows k hk).cell hj⟩

theorem add_any_block (g o j : Nat) : (⟨g, o, none⟩ : Addr).add j = ⟨g, o + j, none⟩ := by unfold Addr.add; split <;> simp_all

/-- What deepLevels' loop holds when q levels are copied. -/
structure Cop (W w : World) (n q : Nat) (G len : Nat → Nat) (F : Nat → Nat → Nat) : Prop where
  outer : w.rowIs W.heap.size 27 n (fun k => if k < q then .slice (some ⟨G k, 0, none⟩) (len k) (len k) else .slice none 0 0)
  rows : Rows w q G len F
  lo : ∀ l, l < q → W.heap.size < G l
  below : Below W.heap.size W w

theorem Cop.step {W wr wc : World} {n q : Nat} {G len : Nat → Nat} {F : Nat → Nat → Nat} (h : Cop W wr n q G len F) (hq : q < n) (hr : wc.rowIs wr.heap.size 34 (len q) (fun j => .int .u64 (F q j : Nat))) (hb : Below wr.heap.size wr wc) :
    Cop W (wc.setCell ⟨W.heap.size, q, none⟩ (.slice (some ⟨wr.heap.size, 0, none⟩) (len q) (len q))) n (q + 1) (fun l => if l = q then wr.heap.size else G l) len F := by
  have ho := h.outer.of_block (hb.block _ h.outer.lt)
  have hlt := h.outer.lt
  have hR : Rows wc (q + 1) (fun l => if l = q then wr.heap.size else G l) len F := (h.rows.below hb).push hr (fun l hl => Nat.ne_of_lt (h.rows.row l hl).lt)
  have hlo : ∀ l, l < q + 1 → W.heap.size < (fun l => if l = q then wr.heap.size else G l) l := by
    intro l hl
    by_cases e : l = q
    · simp [e]; exact hlt
    · simp [e]; exact h.lo l (by omega)
  refine ⟨(ho.set q _).congr fun k hk => ?_, ⟨fun l hl => (hR.row l hl).setOther (Nat.ne_of_gt (hlo l hl)) _, hR.inj⟩, hlo, (h.below.trans (hb.mono h.below.size)).setCell (Nat.le_refl _) _⟩
  by_cases e : k = q
  · subst e; simp
  · by_cases e2 : k < q
    · simp [e, e2, show k < q + 1 by omega]
    · simp [e, e2, show ¬ k < q + 1 by omega]

set_option maxHeartbeats 2000000 in
set_option maxRecDepth 100000 in
theorem deep_any (bo oo n cap0 : Nat) (A : Nat → Option Addr) (len cap Bk Ok : Nat → Nat) (F : Nat → Nat → Nat) (w : World) (hR : RL w bo oo n A len cap Bk Ok F) (hn : n ≤ 1000000) (hlen : ∀ k, k < n → 1 ≤ len k ∧ len k ≤ 1000000) :
    Calls Try.prog 11 #[.slice (some ⟨bo, oo, none⟩) n cap0] w fun e w' => ∃ G, e = .returned (.slice (some ⟨w.heap.size, 0, none⟩) n n) ∧ Own w.heap.size w' w.heap.size n G len F ∧ Below w.heap.size w w' := by
  obtain ⟨i34, hi, hz0, hz1, hz2⟩ := info_parts Try.info34
  obtain ⟨i27, hj, hy0, hy1, hy2⟩ := info_parts Try.info27
  have hnn := fun (w : World) (a : Option Addr) (n c n' c' : Nat) => run_neq_slice_nil_any (P := Try.prog) w 27 34 a n c n' c' Try.underlying27
  have hee := fun (w : World) (a : Option Addr) (n c n' c' : Nat) => Lib.run_eql_slice_nil (P := Try.prog) w 22 27 a n c n' c' Try.underlying22
  have HR : Hid (RL w bo oo n A len cap Bk Ok F) := hR
  have HL : Hid (∀ k, k < n → 1 ≤ len k ∧ len k ≤ 1000000) := hlen
  have hb : i27.bytes * n ≤ 281474976710656 := by rw [hy2]; omega
  clear hR hlen
  go_enter Try.func11, Try.ntmps11
  go_wp2_with (at_make; refine wpList_make_full _ rfl _ _ 22 rfl w.heap.size 27 i27 (.slice none 0 0) 1 Try.underlying22 hj hy0 hy1 .i64 .i64 _ _ n rfl rfl rfl rfl hb (by unfold maxLen; omega) (Nat.le_refl _) ?_; intro wm hown hgm)
  have HC0 : Hid (Cop w wm n 0 (fun _ => 0) len F) := ⟨(rowIs_of_full rfl hown).congr (fun k _ => by simp), ⟨fun l hl => by omega, fun a b ha => by omega⟩, fun l hl => by omega, below_of_grown hgm (by simp)⟩
  clear hown hgm
  go_loopw [4] (fun a4 wr => ∃ (q : Nat) (G : Nat → Nat), q ≤ n ∧ a4 = .int .i64 q ∧ Cop w wr n q G len F) (fun a4 _ => n - (intOf a4).toNat)
  case atStart => exact ⟨0, _, Nat.zero_le _, rfl, HC0.out⟩
  case round =>
    obtain ⟨q, G, hq, rfl, hC⟩ := hrel
    have HC : Hid (Cop w wr n q G len F) := hC
    clear hC
    obtain ⟨wo, hwo⟩ : ∃ wo, wo = wr := ⟨_, rfl⟩
    subst hwo
    by_cases hlt : q < n
    · have hbe := HC.out.below
      have c1 := cell_later hbe (HR.out.outer q hlt)
      have hl := HL.out q hlt
      obtain ⟨m, hm⟩ : ∃ m, m = len q := ⟨_, rfl⟩
      rw [HR.out.addr q hlt (by omega), ← hm] at c1
      rw [← hm] at hl
      obtain ⟨hl1, hl2⟩ := hl
      have HM : Hid (m = len q) := hm
      have hb2 : i34.bytes * m ≤ 281474976710656 := by rw [hz2]; omega
      have HBe : Hid (Below w.heap.size w wo) := hbe
      have HIn : Hid (∀ j, j < m → wo.cell? ⟨Bk q, Ok q + j, none⟩ = some (.int .u64 (F q j : Nat))) := fun j hj => cell_later HBe.out (HR.out.inner q hlt j (by rw [← HM.out]; exact hj))
      have hco := (HC.out.outer.cell hlt)
      simp only [Nat.lt_irrefl, if_false] at hco
      have hfo := HC.out.outer.frozen q
      have hlto := HC.out.outer.lt
      clear hbe hm
      go_wp2_with (first
        | (at_make; refine wpList_make_full _ rfl _ _ 27 rfl wo.heap.size 34 i34 (.int .u64 0) 1 Try.underlying27 hi hz0 hz1 .i64 .i64 _ _ m rfl rfl rfl rfl hb2 (by unfold maxLen; omega) (Nat.le_refl _) ?_; intro wm2 hown hgm; obtain ⟨cur, hrow, hcl⟩ := row_list (rowIs_of_full rfl hown); have hbm := below_of_grown hgm (by simp); have c2 := cell_later hbm c1; clear hown hgm)
        | (refine wpList_copy_splice rfl (.tmp 28) (.tmp 32) 27 27 rfl 34 Try.underlying27 Try.size34 _ _ _ _ _ _ rfl rfl wo.heap.size 0 cur 34 hrow ((List.range m).map (fun j => Value.int .u64 (F q j : Nat))) (by simp) (fun _ => ⟨rfl, _, rfl, range_cells (fun j hj => by rw [add_any_block]; exact cell_later hbm (HIn.out j hj))⟩) (by simp [hcl]) (one_cells _ _) wo.heap.size wo hbm (Nat.le_refl _) ?_; intro wc HG hbc; have co2 := cell_later hbc hco; have fo2 := (hbc.frozen (p := ⟨w.heap.size, q, none⟩) hlto).trans hfo))
      have HCS : Hid (Cop w (wc.setCell ⟨w.heap.size, q, none⟩ (.slice (some ⟨wo.heap.size, 0, none⟩) m m)) n (q + 1) (fun l => if l = q then wo.heap.size else G l) len F) := by
        have := HC.out.step hlt (wc := wc) (by rw [← HM.out]; exact rowIs_of_splice hcl HG.out) hbc
        rw [← HM.out] at this
        exact this
      go_roundw
      case rel => exact ⟨q + 1, _, by omega, by go_num, HCS.out⟩
      case measure => simp [intOf]; omega
    · obtain rfl : q = n := by omega
      go_wp2
      go_ret
      refine ⟨G, rfl, ⟨fun k hk => ?_, HC.out.rows.row, HC.out.rows.inj, fun k hk => Nat.ne_of_gt (HC.out.lo k hk), fun k hk => Nat.le_of_lt (HC.out.lo k hk)⟩, HC.out.below⟩
      have := HC.out.outer.cell hk
      simpa [hk] using this

end Go.Proofs.Qxb6617998a
