/-
  The walk of 'FnObserveScriptMatchesRunModel' (function 3).
-/
import Derived.Test.Qxb6617950aRun
import Derived.Deep.DeepCutAuto
import Derived.Deep.CutBlock
namespace Go.Proofs.Qxb6617950a
open Go.RowKit
set_option linter.unusedVariables false

theorem Try.info4 : (Try.prog.info? 4).map (fun i => (i.zero, i.size, i.bytes)) = some (some (.bool false), 1, 1) := by kernel_rfl

/-- A []bool that came in: no element, or an address with its cells. -/
structure BInp (w : World) (a : Option Addr) (L : Nat) (p : Nat → Bool) : Prop where
  row : L = 0 ∨ ∃ b off, a = some ⟨b, off, none⟩ ∧ ∀ j, j < L → w.cell? ⟨b, off + j, none⟩ = some (.bool (p j))

theorem BInp.at {w : World} {a : Option Addr} {L : Nat} {p : Nat → Bool} (h : BInp w a L p) (hL : 0 < L) : ∃ b off, a = some ⟨b, off, none⟩ ∧ ∀ j, j < L → w.cell? ⟨b, off + j, none⟩ = some (.bool (p j)) := by
  rcases h.row with h | h
  · omega
  · exact h

set_option maxRecDepth 100000 in
theorem script_big (s : ByteArray) (ok : Bool) (n ha ua : Int) (a : Option Addr) (L c : Nat) (w : World) (hs : s.size ≤ maxLen) (hL : L ≤ maxLen) (h : 65536 < s.size ∨ 65536 < L) :
    Calls Try.prog 3 #[.string s, .bool ok, .int .i64 n, .int .i64 ha, .int .i64 ua, .slice a L c] w fun e w' => e = .returned (.bool true) ∧ Below w.heap.size w w' := by
  unfold maxLen at hs hL
  by_cases hA : s.size ≤ 65536
  · have hB : 65536 < L := by omega
    clear h
    go_enter Try.func3, Try.ntmps3
    go_wp2
    all_goals (go_ret; exact ⟨rfl, Below.refl _ _⟩)
  · clear h
    go_enter Try.func3, Try.ntmps3
    go_wp2
    all_goals (go_ret; exact ⟨rfl, Below.refl _ _⟩)

set_option maxRecDepth 100000 in
theorem script_out (s : ByteArray) (ok : Bool) (n ha ua : Int) (a : Option Addr) (L c : Nat) (w : World) (hs : s.size ≤ 65536) (hL : L ≤ 65536) (h : n < 0 ∨ 9223372036854775807 - (L : Int) < n) :
    Calls Try.prog 3 #[.string s, .bool ok, .int .i64 n, .int .i64 ha, .int .i64 ua, .slice a L c] w fun e w' => e = .returned (.bool true) ∧ Below w.heap.size w w' := by
  by_cases hj : n < 0
  · clear h
    go_enter Try.func3, Try.ntmps3
    go_wp2_with (go_at_call 5; refine (zz5 _ _ _ _ _ _ _ _ _ hs hL).mono ?_; rintro e w' ⟨rfl, rfl⟩)
    all_goals (go_ret; exact ⟨rfl, Below.refl _ _⟩)
  · have hj' : 9223372036854775807 - (L : Int) < n := by omega
    clear h
    go_enter Try.func3, Try.ntmps3
    go_wp2_with (go_at_call 5; refine (zz5 _ _ _ _ _ _ _ _ _ hs hL).mono ?_; rintro e w' ⟨rfl, rfl⟩)
    all_goals (go_ret; exact ⟨rfl, Below.refl _ _⟩)

/-- A row of bools of the call's own. -/
structure Row (w : World) (g L : Nat) (F : Nat → Bool) : Prop where
  cell : ∀ j, j < L → w.cell? ⟨g, j, none⟩ = some (.bool (F j))
  free : ∀ j, w.frozen? ⟨g, j, none⟩ = false
  lt : g < w.heap.size

theorem Row.grown {w w' : World} {g L r : Nat} {F : Nat → Bool} (h : Row w g L F) (hg : w.grownBy w' (some r)) (hne : g ≠ r) : Row w' g L F := by
  have hb := hg.block g h.lt (by simp [hne])
  exact ⟨fun j hj => (World.cell?_of_block (w := w) (a := ⟨g, j, none⟩) hb).trans (h.cell j hj), fun j => (World.frozen?_of_block (w := w) (a := ⟨g, j, none⟩) hb).trans (h.free j), Nat.lt_of_lt_of_le h.lt hg.size⟩

theorem row_of_made {w : World} {base g L : Nat} (h : w.ownsRow base 4 1 (.slice (some ⟨g, 0, none⟩) L L) L (madeCells (Value.bool false).cells (L * 1)).toList) : Row w g L (fun _ => false) := by
  have hlt : g < w.heap.size := by
    rcases h.2 with ⟨h', _⟩ | ⟨g', cap', cur, h', _, hg, _⟩
    · simp at h'
    · simp only [Value.slice.injEq, Option.some.injEq, Addr.mk.injEq, and_true, true_and] at h'
      obtain ⟨rfl, rfl⟩ := h'
      rcases Nat.lt_or_ge g w.heap.size with h' | h'
      · exact h'
      · rw [Array.getElem?_eq_none h'] at hg; simp at hg
  refine ⟨fun j hj => ?_, fun j => h.frozenAt j, hlt⟩
  rw [h.cellAt j (by omega)]
  have e : (Value.bool false).cells = #[.bool false] := rfl
  rw [e, toList_madeCells_one, List.getElem?_replicate, if_pos (by omega)]

theorem Row.set {w : World} {g L : Nat} {F G : Nat → Bool} (h : Row w g L F) (q : Nat) (hq : q < L) (hG : ∀ j, j < L → G j = if j = q then true else F j) : Row (w.setCell ⟨g, q, none⟩ (.bool true)) g L G := by
  refine ⟨fun j hj => ?_, fun j => by simp [h.free j], by simpa [World.setCell] using h.lt⟩
  rw [hG j hj]
  by_cases e : j = q
  · subst e; rw [if_pos rfl]; exact World.cell?_setCell_same _ _ _ (h.cell j hj)
  · rw [if_neg e, World.cell?_setCell_other _ _ _ _ (addr_ne (Ne.symm e))]; exact h.cell j hj

theorem want_hit {G F : Nat → Bool} {S F0 : ByteArray} {J d I : Int} {L : Nat} (hw : ∀ j : Nat, G j = if S = F0 ∧ J ≤ d ∧ (j : Int) = I + J - 1 then true else F j) (hS : S = F0) (hJ : J ≤ d) (x : Nat) (hx : (x : Int) = I + J - 1) :
    ∀ j, j < L → G j = if j = x then true else F j := by
  intro j _
  rw [hw j]
  by_cases e : j = x
  · subst e; rw [if_pos ⟨hS, hJ, hx⟩, if_pos rfl]
  · rw [if_neg e, if_neg (fun h => e (by omega))]

theorem Row.congr {w : World} {g L : Nat} {F G : Nat → Bool} (h : Row w g L F) (hG : ∀ j, G j = F j) : Row w g L G := ⟨fun j hj => by rw [hG]; exact h.cell j hj, h.free, h.lt⟩

theorem below_of_grown {w w' : World} {row : Option Nat} (h : w.grownBy w' row) (hr : ∀ k, row = some k → w.heap.size ≤ k) : Below w.heap.size w w' :=
  (Below.refl _ _).grown h (Nat.le_refl _) hr

set_option maxRecDepth 100000 in
set_option maxHeartbeats 4000000 in
theorem script_main (s : ByteArray) (ok : Bool) (n ha ua : Int) (a : Option Addr) (L c : Nat) (p : Nat → Bool) (w : World) (I : BInp w a L p) (hs : s.size ≤ 65536) (hL : L ≤ 65536) (hn0 : 0 ≤ n) (hn : n ≤ 9223372036854775807 - (L : Int)) (hha : ha ≤ 9223372036854775807) (hua : ua ≤ 9223372036854775807) :
    Calls Try.prog 3 #[.string s, .bool ok, .int .i64 n, .int .i64 ha, .int .i64 ua, .slice a L c] w fun e w' => e = .returned (.bool true) ∧ Below w.heap.size w w' := by
  obtain ⟨i4, hi4, hz0, hz1, hz2⟩ := info_parts Try.info4
  have hb : i4.bytes * L ≤ 281474976710656 := by rw [hz2]; omega
  have g1 : ¬ n < 0 := by omega
  have g2 : ¬ (9223372036854775807 - (L : Int) < n) := by omega
  have HI : Hid (BInp w a L p) := I
  clear I
  go_enter Try.func3, Try.ntmps3
  go_wp2_with (first
    | (go_at_call 5; refine (zz5 _ _ _ _ _ _ _ _ _ hs hL).mono ?_; rintro e w' ⟨rfl, rfl⟩)
    | (at_make; refine wpList_make_full _ rfl _ _ 22 rfl w.heap.size 4 i4 (.bool false) 1 Try.underlying22 hi4 hz0 hz1 .i64 .i64 _ _ L rfl rfl rfl rfl hb (by unfold maxLen; omega) (Nat.le_refl _) ?_; intro wm hown hgm))
  have HR : Hid (Row wm w.heap.size L (wantAt p ha ua (s, ok, n) 0)) := by
    have := row_of_made hown
    exact ⟨fun j hj => by rw [this.cell j hj]; simp [wantAt], this.free, this.lt⟩
  have HB : Hid (Below w.heap.size w wm) := below_of_grown hgm (by simp)
  clear hown hgm hi4 hz0 hz1 hz2 hb g1 g2
  go_loopw [16, 17, 18, 19] (fun a16 a17 a18 a19 wr => ∃ (i : Nat) (S : ByteArray) (o : Bool) (k : Int), i ≤ L ∧ Hid (run p ha ua (s, ok, n) i = (S, o, k)) ∧ a16 = .string S ∧ a17 = .bool o ∧ a18 = .int .i64 k ∧ a19 = .int .i64 i ∧
      Row wr w.heap.size L (wantAt p ha ua (s, ok, n) i) ∧ Below w.heap.size w wr) (fun _ _ _ a19 _ => L - (intOf a19).toNat)
  case atStart => exact ⟨0, s, ok, n, Nat.zero_le _, rfl, rfl, rfl, rfl, rfl, HR.out, HB.out⟩
  case round =>
    obtain ⟨i, S, o, k, hiL, hrun, rfl, rfl, rfl, rfl, hrow, hnx⟩ := hrel
    have HRr : Hid (Row wr w.heap.size L (wantAt p ha ua (s, ok, n) i)) := hrow
    have HX : Hid (Below w.heap.size w wr) := hnx
    clear hrow hnx
    obtain ⟨hk0, hk1⟩ : 0 ≤ k ∧ k ≤ n + i := by
      have := run_bound (p := p) (ha := ha) (ua := ua) (t0 := (s, ok, n)) hn0 i
      rw [hrun.out] at this
      exact this
    by_cases hlt : i < L
    · obtain ⟨bp, off, hap, hcp⟩ := HI.out.at (by omega)
      subst hap
      have HC : Hid (∀ j, j < L → wr.cell? ⟨bp, off + j, none⟩ = some (.bool (p j))) := fun j hj => cell_later HX.out (hcp j hj)
      clear hcp
      obtain ⟨v, hv⟩ : ∃ v, p i = v := ⟨_, rfl⟩
      have ci := HC.out i hlt
      rw [hv] at ci
      have HV : Hid (p i = v) := hv
      clear hv
      obtain ⟨wo, hwo⟩ : ∃ wo, wo = wr := ⟨_, rfl⟩
      subst hwo
      cases v
      · go_upto_block 2 with fail
        clear ci
        go_cut [21] (fun a21 wx => ∃ q : Nat, i < q ∧ q ≤ L ∧ a21 = .int .i64 q ∧ Hid (∀ j, i ≤ j → j < q → p j = false) ∧ wo = wx)
        case first =>
          go_wp2
          go_loop [21] (fun a21 => ∃ q : Nat, i ≤ q ∧ q ≤ L ∧ a21 = .int .i64 q ∧ Hid (∀ j, i ≤ j → j < q → p j = false)) (fun a21 => L - (intOf a21).toNat)
          case atStart => exact ⟨i, Nat.le_refl _, hiL, rfl, fun j h1 h2 => by omega⟩
          case round =>
            obtain ⟨q, hiq, hqL, rfl, hall⟩ := hrel
            by_cases hq : q < L
            · by_cases hpq : p q = false
              · have cq := HC.out q hq
                rw [hpq] at cq
                have HPQ : Hid (p q = false) := hpq
                clear hpq
                go_wp2
                go_round
                case rel => exact ⟨q + 1, by omega, by omega, by go_num, fun j h1 h2 => by
                  by_cases e : j = q
                  · subst e; exact HPQ.out
                  · exact hall.out j h1 (by omega)⟩
                case measure => simp [intOf]; omega
              · have cq := HC.out q hq
                have e : p q = true := by simpa using hpq
                rw [e] at cq
                have hiq' : i < q := by
                  by_cases e : i = q
                  · subst e; exact absurd HV.out hpq
                  · omega
                clear e hpq
                go_wp2
                go_meet
                case rel => exact ⟨q, hiq', hqL, rfl, hall, rfl⟩
            · go_wp2
              go_meet
              case rel => exact ⟨q, by omega, hqL, rfl, hall, rfl⟩
        case rest =>
          obtain ⟨q, hiq, hqL, rfl, hall, rfl⟩ := hcut
          have RB := run_block hrun.out hall.out (q - i) (by omega) (by omega)
          have WS := fun j => want_step (Nat.le_of_lt hiq) hrun.out hall.out j
          rw [show i + (q - i) = q by omega] at RB
          have hC0 : 0 ≤ c0 false o k ∧ c0 false o k ≤ n + i := by unfold c0; split <;> omega
          obtain ⟨C, hC⟩ : ∃ C, C = c0 false o k := ⟨_, rfl⟩
          unfold jj at WS
          rw [← hC] at RB WS hC0
          obtain ⟨hc0, hc1⟩ := hC0
          rw [show ((q - i : Nat) : Int) = (q : Int) - i by omega] at RB WS
          rw [show fr false = hS from rfl, show vd false = uS from rfl, show th false ha ua = ua from rfl] at RB
          rw [show fr false = hS from rfl, show th false ha ua = ua from rfl] at WS
          have HRB : Hid (run p ha ua (s, ok, n) q = (if S = hS ∧ ua ≤ C + ((q : Int) - i) then uS else S, false, C + ((q : Int) - i))) := RB
          have HWS : Hid (∀ j : Nat, wantAt p ha ua (s, ok, n) q j = if S = hS ∧ (if C + 1 < ua then ua - C else 1) ≤ (q : Int) - i ∧ (j : Int) = i + (if C + 1 < ua then ua - C else 1) - 1 then true else wantAt p ha ua (s, ok, n) i j) := WS
          clear RB WS
          go_upto_if 93 with fail
          go_cut [23] (fun a23 wx => a23 = .int .i64 C ∧ wo = wx)
          case first =>
            subst hC
            cases o
            all_goals
              go_wp2
              go_meet
              case rel => exact ⟨rfl, rfl⟩
          case rest =>
            obtain ⟨rfl, rfl⟩ := hcut
            clear hC
            by_cases hS : S = hS
            · subst hS
              by_cases h1 : C + 1 < ua
              · by_cases h2 : ua - C ≤ (q : Int) - i
                · have cs := HRr.out.cell (((i : Int) + (ua - C)).toNat - 1) (by omega)
                  have fs := HRr.out.free (((i : Int) + (ua - C)).toNat - 1)
                  go_wp2
                  go_roundw
                  case rel => exact ⟨q, _, _, _, hqL, by show _ = _; rw [HRB.out, if_pos ⟨rfl, by omega⟩], rfl, rfl, rfl, rfl, HRr.out.set _ (by omega) (want_hit HWS.out rfl (by rw [if_pos h1]; exact h2) _ (by rw [if_pos h1]; omega)), HX.out.setCell (Nat.le_refl _) _⟩
                  case measure => simp [intOf]; omega
                · go_wp2
                  go_roundw
                  case rel => exact ⟨q, _, _, _, hqL, by show _ = _; rw [HRB.out, if_neg (by omega)], rfl, rfl, rfl, rfl, HRr.out.congr (fun j => by rw [HWS.out j, if_pos h1, if_neg (by omega)]), HX.out⟩
                  case measure => simp [intOf]; omega
              · have cs := HRr.out.cell i hlt
                have fs := HRr.out.free i
                go_wp2
                go_roundw
                case rel => exact ⟨q, _, _, _, hqL, by show _ = _; rw [HRB.out, if_pos ⟨rfl, by omega⟩], rfl, rfl, rfl, rfl, HRr.out.set _ hlt (want_hit HWS.out rfl (by rw [if_neg h1]; omega) _ (by rw [if_neg h1]; omega)), HX.out.setCell (Nat.le_refl _) _⟩
                case measure => simp [intOf]; omega
            · have hS' := str_ne (l := [72, 69, 65, 76, 84, 72, 89]) hS (by rw [ByteArray.toList_eq])
              go_wp2
              go_roundw
              case rel => exact ⟨q, _, _, _, hqL, by show _ = _; rw [HRB.out, if_neg (fun h => hS h.1)], rfl, rfl, rfl, rfl, HRr.out.congr (fun j => by rw [HWS.out j, if_neg (fun h => hS h.1)]), HX.out⟩
              case measure => simp [intOf]; omega
      · go_upto_block 2 with fail
        clear ci
        go_cut [21] (fun a21 wx => ∃ q : Nat, i < q ∧ q ≤ L ∧ a21 = .int .i64 q ∧ Hid (∀ j, i ≤ j → j < q → p j = true) ∧ wo = wx)
        case first =>
          go_wp2
          go_loop [21] (fun a21 => ∃ q : Nat, i ≤ q ∧ q ≤ L ∧ a21 = .int .i64 q ∧ Hid (∀ j, i ≤ j → j < q → p j = true)) (fun a21 => L - (intOf a21).toNat)
          case atStart => exact ⟨i, Nat.le_refl _, hiL, rfl, fun j h1 h2 => by omega⟩
          case round =>
            obtain ⟨q, hiq, hqL, rfl, hall⟩ := hrel
            by_cases hq : q < L
            · by_cases hpq : p q = true
              · have cq := HC.out q hq
                rw [hpq] at cq
                have HPQ : Hid (p q = true) := hpq
                clear hpq
                go_wp2
                go_round
                case rel => exact ⟨q + 1, by omega, by omega, by go_num, fun j h1 h2 => by
                  by_cases e : j = q
                  · subst e; exact HPQ.out
                  · exact hall.out j h1 (by omega)⟩
                case measure => simp [intOf]; omega
              · have cq := HC.out q hq
                have e : p q = false := by simpa using hpq
                rw [e] at cq
                have hiq' : i < q := by
                  by_cases e : i = q
                  · subst e; exact absurd HV.out hpq
                  · omega
                clear e hpq
                go_wp2
                go_meet
                case rel => exact ⟨q, hiq', hqL, rfl, hall, rfl⟩
            · go_wp2
              go_meet
              case rel => exact ⟨q, by omega, hqL, rfl, hall, rfl⟩
        case rest =>
          obtain ⟨q, hiq, hqL, rfl, hall, rfl⟩ := hcut
          have RB := run_block hrun.out hall.out (q - i) (by omega) (by omega)
          have WS := fun j => want_step (Nat.le_of_lt hiq) hrun.out hall.out j
          rw [show i + (q - i) = q by omega] at RB
          have hC0 : 0 ≤ c0 true o k ∧ c0 true o k ≤ n + i := by unfold c0; split <;> omega
          obtain ⟨C, hC⟩ : ∃ C, C = c0 true o k := ⟨_, rfl⟩
          unfold jj at WS
          rw [← hC] at RB WS hC0
          obtain ⟨hc0, hc1⟩ := hC0
          rw [show ((q - i : Nat) : Int) = (q : Int) - i by omega] at RB WS
          rw [show fr true = uS from rfl, show vd true = hS from rfl, show th true ha ua = ha from rfl] at RB
          rw [show fr true = uS from rfl, show th true ha ua = ha from rfl] at WS
          have HRB : Hid (run p ha ua (s, ok, n) q = (if S = uS ∧ ha ≤ C + ((q : Int) - i) then hS else S, true, C + ((q : Int) - i))) := RB
          have HWS : Hid (∀ j : Nat, wantAt p ha ua (s, ok, n) q j = if S = uS ∧ (if C + 1 < ha then ha - C else 1) ≤ (q : Int) - i ∧ (j : Int) = i + (if C + 1 < ha then ha - C else 1) - 1 then true else wantAt p ha ua (s, ok, n) i j) := WS
          clear RB WS
          go_upto_if 93 with fail
          go_cut [23] (fun a23 wx => a23 = .int .i64 C ∧ wo = wx)
          case first =>
            subst hC
            cases o
            all_goals
              go_wp2
              go_meet
              case rel => exact ⟨rfl, rfl⟩
          case rest =>
            obtain ⟨rfl, rfl⟩ := hcut
            clear hC
            by_cases hS : S = uS
            · subst hS
              by_cases h1 : C + 1 < ha
              · by_cases h2 : ha - C ≤ (q : Int) - i
                · have cs := HRr.out.cell (((i : Int) + (ha - C)).toNat - 1) (by omega)
                  have fs := HRr.out.free (((i : Int) + (ha - C)).toNat - 1)
                  go_wp2
                  go_roundw
                  case rel => exact ⟨q, _, _, _, hqL, by show _ = _; rw [HRB.out, if_pos ⟨rfl, by omega⟩], rfl, rfl, rfl, rfl, HRr.out.set _ (by omega) (want_hit HWS.out rfl (by rw [if_pos h1]; exact h2) _ (by rw [if_pos h1]; omega)), HX.out.setCell (Nat.le_refl _) _⟩
                  case measure => simp [intOf]; omega
                · go_wp2
                  go_roundw
                  case rel => exact ⟨q, _, _, _, hqL, by show _ = _; rw [HRB.out, if_neg (by omega)], rfl, rfl, rfl, rfl, HRr.out.congr (fun j => by rw [HWS.out j, if_pos h1, if_neg (by omega)]), HX.out⟩
                  case measure => simp [intOf]; omega
              · have cs := HRr.out.cell i hlt
                have fs := HRr.out.free i
                go_wp2
                go_roundw
                case rel => exact ⟨q, _, _, _, hqL, by show _ = _; rw [HRB.out, if_pos ⟨rfl, by omega⟩], rfl, rfl, rfl, rfl, HRr.out.set _ hlt (want_hit HWS.out rfl (by rw [if_neg h1]; omega) _ (by rw [if_neg h1]; omega)), HX.out.setCell (Nat.le_refl _) _⟩
                case measure => simp [intOf]; omega
            · have hS' := str_ne (l := [85, 78, 72, 69, 65, 76, 84, 72, 89]) hS (by rw [ByteArray.toList_eq])
              go_wp2
              go_roundw
              case rel => exact ⟨q, _, _, _, hqL, by show _ = _; rw [HRB.out, if_neg (fun h => hS h.1)], rfl, rfl, rfl, rfl, HRr.out.congr (fun j => by rw [HWS.out j, if_neg (fun h => hS h.1)]), HX.out⟩
              case measure => simp [intOf]; omega
    · obtain rfl : i = L := by omega
      obtain ⟨wq, hwq⟩ : ∃ wq, wq = wr := ⟨_, rfl⟩
      subst hwq
      have hsz : w.heap.size < wq.heap.size := HRr.out.lt
      go_wp2_with fail
      refine (make_any _ _ _ _ _ _).mono ?_
      rintro e w1 ⟨rfl, hw1⟩
      have HS0 : Hid (Streak w1 wq.heap.size s ok n ha ua) := hw1 ▸ streak_new s ok n ha ua wq
      have HR1 : Hid (Row w1 w.heap.size i (wantAt p ha ua (s, ok, n) i)) := hw1 ▸ HRr.out.grown (World.grownBy_alloc wq _ (some wq.heap.size)) (by omega)
      have HB1 : Hid (Below w.heap.size w w1) := hw1 ▸ HX.out.alloc (Nat.le_of_lt hsz) _
      clear hw1
      go_wp2
      go_loopw [29] (fun a29 wr2 => ∃ j : Nat, j ≤ i ∧ a29 = .int .i64 j ∧ Streak wr2 wq.heap.size (run p ha ua (s, ok, n) j).1 (run p ha ua (s, ok, n) j).2.1 (run p ha ua (s, ok, n) j).2.2 ha ua ∧
        Row wr2 w.heap.size i (wantAt p ha ua (s, ok, n) i) ∧ Below w.heap.size w wr2) (fun a29 _ => i - (intOf a29).toNat)
      case atStart => exact ⟨0, Nat.zero_le _, rfl, HS0.out, HR1.out, HB1.out⟩
      case round =>
        obtain ⟨j, hj, rfl, hst, hro, hbe⟩ := hrel
        have HBe : Hid (Below w.heap.size w wr) := hbe
        have HRo : Hid (Row wr w.heap.size i (wantAt p ha ua (s, ok, n) i)) := hro
        have hbd := run_bound (p := p) (ha := ha) (ua := ua) (t0 := (s, ok, n)) hn0 j
        by_cases hjl : j < i
        · obtain ⟨r, hr⟩ : ∃ r, ans p ha ua (s, ok, n) j = r := ⟨_, rfl⟩
          have hbn : (run p ha ua (s, ok, n) j).2.2 < 9223372036854775807 := by
            have : (run p ha ua (s, ok, n) j).2.2 ≤ n + j := hbd.2
            omega
          have CO : Hid (Calls Try.prog 7 #[.pointer (some ⟨wq.heap.size, 0, none⟩), .bool (p j)] wr fun e w' => e = .returned (.bool r) ∧
              Streak w' wq.heap.size (run p ha ua (s, ok, n) (j + 1)).1 (run p ha ua (s, ok, n) (j + 1)).2.1 (run p ha ua (s, ok, n) (j + 1)).2.2 ha ua ∧ wr.grownBy w' (some wq.heap.size)) := by
            subst hr
            exact zzobs_any wq.heap.size _ (p j) _ _ ha ua wr hst hbd.1 hbn
          have hwant : wantAt p ha ua (s, ok, n) i j = r := by simp [wantAt, hjl, hr]
          have HW : Hid (wantAt p ha ua (s, ok, n) i j = r) := hwant
          obtain ⟨bp, off, hap, hcp⟩ := HI.out.at (by omega)
          subst hap
          have cp : wr.cell? ⟨bp, off + j, none⟩ = some (.bool (p j)) := cell_later HBe.out (hcp j hjl)
          clear hst hro hbe hbd hbn hr hwant hcp
          go_wp2_with fail
          refine CO.out.mono ?_
          rintro e w2 ⟨rfl, hS2, hg2⟩
          have HR2 : Hid (Row w2 w.heap.size i (wantAt p ha ua (s, ok, n) i)) := HRo.out.grown hg2 (by omega)
          have HB2 : Hid (Below w.heap.size w w2) := HBe.out.grown hg2 HBe.out.size (fun k hk => by cases hk; omega)
          have cw : w2.cell? ⟨w.heap.size, j, none⟩ = some (.bool r) := by rw [← HW.out]; exact HR2.out.cell j hjl
          have HS2 : Hid (Streak w2 wq.heap.size (run p ha ua (s, ok, n) (j + 1)).1 (run p ha ua (s, ok, n) (j + 1)).2.1 (run p ha ua (s, ok, n) (j + 1)).2.2 ha ua) := hS2
          clear hS2 hg2 CO cp
          go_wp2
          go_roundw
          case rel => exact ⟨j + 1, by omega, by go_num, HS2.out, HR2.out, HB2.out⟩
          case measure => simp [intOf]; omega
        · obtain rfl : j = i := by omega
          rw [hrun.out] at hst
          have CF := fields_any wq.heap.size S o k ha ua wr hst
          clear hst hro hbe hbd
          go_wp2_with fail
          refine CF.mono ?_
          clear CF
          rintro e w2 ⟨rfl, qn, hq⟩
          have HB2 : Hid (Below w.heap.size w w2) := by rw [hq]; exact ⟨HBe.out.os, HBe.out.tape, HBe.out.output, HBe.out.size, HBe.out.block⟩
          clear hq
          go_wp2
          go_ret
          exact ⟨rfl, HB2.out⟩

end Go.Proofs.Qxb6617950a
