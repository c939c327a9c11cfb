/-
  The walk of 'FnObserveMirrorAndTrailingVerdict' (function 4).
-/
import Derived.Test.Qxb6617950aMirPlain
import Derived.Test.Qxb6617950aScript
namespace Go.Proofs.Qxb6617950a
open Go.RowKit
set_option linter.unusedVariables false

set_option maxRecDepth 100000 in
theorem mirror_big (s : ByteArray) (ok : Bool) (n ha ua : Int) (a : Option Addr) (L c : Nat) (w : World) (hs : s.size ≤ maxLen) (hL : L ≤ maxLen) (h : 65536 < s.size ∨ 65536 < L) :
    Calls Try.prog 4 #[.string s, .bool ok, .int .i64 n, .int .i64 ha, .int .i64 ua, .slice a L c] w fun e w' => e = .returned (.bool true) ∧ Below w.heap.size w w' := by
  unfold maxLen at hs hL
  by_cases hA : s.size ≤ 65536
  · have hB : 65536 < L := by omega
    clear h
    go_enter Try.func4, Try.ntmps4
    go_wp2
    all_goals (go_ret; exact ⟨rfl, Below.refl _ _⟩)
  · clear h
    go_enter Try.func4, Try.ntmps4
    go_wp2
    all_goals (go_ret; exact ⟨rfl, Below.refl _ _⟩)

set_option maxRecDepth 100000 in
theorem mirror_out (s : ByteArray) (ok : Bool) (n ha ua : Int) (a : Option Addr) (L c : Nat) (w : World) (hs : s.size ≤ 65536) (hL : L ≤ 65536) (h : n < 0 ∨ 9223372036854775807 - (L : Int) < n) :
    Calls Try.prog 4 #[.string s, .bool ok, .int .i64 n, .int .i64 ha, .int .i64 ua, .slice a L c] w fun e w' => e = .returned (.bool true) ∧ Below w.heap.size w w' := by
  by_cases hj : n < 0
  · clear h
    go_enter Try.func4, Try.ntmps4
    go_wp2_with (go_at_call 9; refine (zz9 _ _ _ _ _ _ _ _ _ hs hL).mono ?_; rintro e w' ⟨rfl, rfl⟩)
    all_goals (go_ret; exact ⟨rfl, Below.refl _ _⟩)
  · have hj' : 9223372036854775807 - (L : Int) < n := by omega
    clear h
    go_enter Try.func4, Try.ntmps4
    go_wp2_with (go_at_call 9; refine (zz9 _ _ _ _ _ _ _ _ _ hs hL).mono ?_; rintro e w' ⟨rfl, rfl⟩)
    all_goals (go_ret; exact ⟨rfl, Below.refl _ _⟩)

theorem Streak.grown {w w' : World} {g r : Nat} {s : ByteArray} {ok : Bool} {n ha ua : Int} (S : Streak w g s ok n ha ua) (hg : w.grownBy w' (some r)) (hne : g ≠ r) : Streak w' g s ok n ha ua := by
  have hlt : g < w.heap.size := World.block_lt_of_cell? _ _ S.c0
  have hb := hg.block g hlt (by simp [hne])
  have e : ∀ o, w'.cell? ⟨g, o, none⟩ = w.cell? ⟨g, o, none⟩ := fun o => World.cell?_of_block (w := w) (a := ⟨g, o, none⟩) hb
  have f : ∀ o, w'.frozen? ⟨g, o, none⟩ = w.frozen? ⟨g, o, none⟩ := fun o => World.frozen?_of_block (w := w) (a := ⟨g, o, none⟩) hb
  exact ⟨(e 0).trans S.c0, (e 1).trans S.c1, (e 2).trans S.c2, (e 3).trans S.c3, (e 4).trans S.c4, (f 0).trans S.f0, (f 1).trans S.f1, (f 2).trans S.f2⟩

theorem beq_ne {a b : Bool} (h : ¬ a = b) : (a == b) = false := by revert h; cases a <;> cases b <;> decide
theorem bool_ne {a b : Bool} (h : ¬ a = b) : a = !b := by revert h; cases a <;> cases b <;> decide

theorem below_drewB {B : Nat} {a w : World} (q : Nat) (h : Below B a w) : Below B a (w.drewN q) := ⟨h.os, h.tape, h.output, h.size, h.block⟩

set_option maxRecDepth 100000 in
set_option maxHeartbeats 4000000 in
theorem mirror_main (s : ByteArray) (ok : Bool) (n ha ua : Int) (a : Option Addr) (L c : Nat) (p : Nat → Bool) (w : World) (I : BInp w a L p) (hs : s.size ≤ 65536) (hL : L ≤ 65536) (hn0 : 0 ≤ n) (hn : n ≤ 9223372036854775807 - (L : Int)) (hha : ha ≤ 9223372036854775807) (hua : ua ≤ 9223372036854775807) :
    Calls Try.prog 4 #[.string s, .bool ok, .int .i64 n, .int .i64 ha, .int .i64 ua, .slice a L c] w fun e w' => e = .returned (.bool true) ∧ Below w.heap.size w w' := by
  have g1 : ¬ n < 0 := by omega
  have g2 : ¬ (9223372036854775807 - (L : Int) < n) := by omega
  have HI : Hid (BInp w a L p) := I
  clear I
  go_enter Try.func4, Try.ntmps4
  go_wp2_with (go_at_call 9; refine (zz9 _ _ _ _ _ _ _ _ _ hs hL).mono ?_; rintro e w' ⟨rfl, rfl⟩)
  clear g1 g2
  refine (make_any _ _ _ _ _ _).mono ?_
  rintro e w1 ⟨rfl, hw1⟩
  have HA1 : Hid (Streak w1 w.heap.size s ok n ha ua) := hw1 ▸ streak_new s ok n ha ua w
  have HB1 : Hid (Below w.heap.size w w1) := hw1 ▸ (Below.refl _ _).alloc (Nat.le_refl _) _
  have hz1 : w1.heap.size = w.heap.size + 1 := by rw [hw1]; simp
  clear hw1
  go_wp2_with fail
  refine (mirror_any _ _).mono ?_
  rintro e w' ⟨rfl, hw'⟩
  obtain rfl := hw'.symm
  go_wp2_with fail
  refine (make_any _ _ _ _ _ _).mono ?_
  rintro e w2 ⟨rfl, hw2⟩
  have HA2 : Hid (Streak w2 w.heap.size s ok n ha ua) := hw2 ▸ HA1.out.grown (World.grownBy_alloc w1 _ (some w1.heap.size)) (by omega)
  have HM2 : Hid (Streak w2 w1.heap.size (mir s) (!ok) n ua ha) := hw2 ▸ streak_new _ _ _ _ _ w1
  have HB2 : Hid (Below w.heap.size w w2) := hw2 ▸ HB1.out.alloc (by omega) _
  have hg : w.heap.size < w1.heap.size := by omega
  obtain ⟨gb, hgb⟩ : ∃ gb, gb = w1.heap.size := ⟨_, rfl⟩
  rw [← hgb] at HM2 hg
  rw [← hgb]
  clear hw2 hz1 HA1 HB1 hgb
  go_wp2
  go_loopw [17] (fun a17 wr => ∃ j : Nat, j ≤ L ∧ a17 = .int .i64 j ∧ Streak wr w.heap.size (run p ha ua (s, ok, n) j).1 (run p ha ua (s, ok, n) j).2.1 (run p ha ua (s, ok, n) j).2.2 ha ua ∧
    Streak wr gb (mir (run p ha ua (s, ok, n) j).1) (!(run p ha ua (s, ok, n) j).2.1) (run p ha ua (s, ok, n) j).2.2 ua ha ∧ Below w.heap.size w wr) (fun a17 _ => L - (intOf a17).toNat)
  case atStart => exact ⟨0, Nat.zero_le _, rfl, HA2.out, HM2.out, HB2.out⟩
  case round =>
    obtain ⟨j, hj, rfl, hA, hM, hbe⟩ := hrel
    have hbd := run_bound (p := p) (ha := ha) (ua := ua) (t0 := (s, ok, n)) hn0 j
    by_cases hjl : j < L
    · obtain ⟨r, hr⟩ : ∃ r, ans p ha ua (s, ok, n) j = r := ⟨_, rfl⟩
      have hbn : (run p ha ua (s, ok, n) j).2.2 < 9223372036854775807 := by
        have : (run p ha ua (s, ok, n) j).2.2 ≤ n + j := hbd.2
        omega
      have CA : Hid (Calls Try.prog 7 #[.pointer (some ⟨w.heap.size, 0, none⟩), .bool (p j)] wr fun e w' => e = .returned (.bool r) ∧
          Streak w' w.heap.size (run p ha ua (s, ok, n) (j + 1)).1 (run p ha ua (s, ok, n) (j + 1)).2.1 (run p ha ua (s, ok, n) (j + 1)).2.2 ha ua ∧ wr.grownBy w' (some w.heap.size)) := by
        subst hr
        exact zzobs_any w.heap.size _ (p j) _ _ ha ua wr hA hbd.1 hbn
      have hmr := run_mir (p := p) (ha := ha) (ua := ua) (t0 := (s, ok, n)) (j + 1)
      have hma := ans_mir (p := p) (ha := ha) (ua := ua) (t0 := (s, ok, n)) j
      have hmj := run_mir (p := p) (ha := ha) (ua := ua) (t0 := (s, ok, n)) j
      have CM : Hid (∀ W, Streak W gb (mir (run p ha ua (s, ok, n) j).1) (!(run p ha ua (s, ok, n) j).2.1) (run p ha ua (s, ok, n) j).2.2 ua ha → Calls Try.prog 7 #[.pointer (some ⟨gb, 0, none⟩), .bool (!p j)] W fun e w' => e = .returned (.bool r) ∧
          Streak w' gb (mir (run p ha ua (s, ok, n) (j + 1)).1) (!(run p ha ua (s, ok, n) (j + 1)).2.1) (run p ha ua (s, ok, n) (j + 1)).2.2 ua ha ∧ W.grownBy w' (some gb)) := by
        intro W hW
        refine (zzobs_any gb _ (!p j) _ _ ua ha W hW hbd.1 hbn).mono ?_
        rintro e w' ⟨rfl, h1, h2⟩
        refine ⟨?_, ?_, h2⟩
        · rw [← hr, ← hma]
          unfold ans
          rw [hmj]
          rfl
        · have e1 : mir (run p ha ua (s, ok, n) (j + 1)).1 = (run (fun j => !p j) ua ha (mirS (s, ok, n)) (j + 1)).1 := by rw [hmr]; rfl
          have e2 : (!(run p ha ua (s, ok, n) (j + 1)).2.1) = (run (fun j => !p j) ua ha (mirS (s, ok, n)) (j + 1)).2.1 := by rw [hmr]; rfl
          have e3 : (run p ha ua (s, ok, n) (j + 1)).2.2 = (run (fun j => !p j) ua ha (mirS (s, ok, n)) (j + 1)).2.2 := by rw [hmr]; rfl
          rw [e1, e2, e3]
          show Streak w' gb (stp ua ha (run (fun j => !p j) ua ha (mirS (s, ok, n)) j) (!p j)).1 (!p j) (stp ua ha (run (fun j => !p j) ua ha (mirS (s, ok, n)) j) (!p j)).2.2 ua ha
          rw [hmj]
          exact h1
      obtain ⟨bp, off, hap, hcp⟩ := HI.out.at (by omega)
      subst hap
      have HBe : Hid (Below w.heap.size w wr) := hbe
      have HM : Hid (Streak wr gb (mir (run p ha ua (s, ok, n) j).1) (!(run p ha ua (s, ok, n) j).2.1) (run p ha ua (s, ok, n) j).2.2 ua ha) := hM
      have cp : wr.cell? ⟨bp, off + j, none⟩ = some (.bool (p j)) := cell_later HBe.out (hcp j hjl)
      have HCP : Hid (∀ j, j < L → w.cell? ⟨bp, off + j, none⟩ = some (.bool (p j))) := hcp
      clear hA hM hbe hbd hbn hr hcp hmr hma hmj
      go_wp2_with fail
      refine CA.out.mono ?_
      rintro e w3 ⟨rfl, hS3, hg3⟩
      have HB3 : Hid (Below w.heap.size w w3) := HBe.out.grown hg3 HBe.out.size (fun k hk => by cases hk; omega)
      have HS3 : Hid (Streak w3 w.heap.size (run p ha ua (s, ok, n) (j + 1)).1 (run p ha ua (s, ok, n) (j + 1)).2.1 (run p ha ua (s, ok, n) (j + 1)).2.2 ha ua) := hS3
      have HM3 : Hid (Streak w3 gb (mir (run p ha ua (s, ok, n) j).1) (!(run p ha ua (s, ok, n) j).2.1) (run p ha ua (s, ok, n) j).2.2 ua ha) := HM.out.grown hg3 (by omega)
      have cp3 : w3.cell? ⟨bp, off + j, none⟩ = some (.bool (p j)) := cell_later HB3.out (HCP.out j hjl)
      clear hS3 hg3 HM CA cp
      go_wp2_with fail
      refine (CM.out _ HM3.out).mono ?_
      rintro e w4 ⟨rfl, hM4, hg4⟩
      have HB4 : Hid (Below w.heap.size w w4) := HB3.out.grown hg4 HB3.out.size (fun k hk => by cases hk; omega)
      have HS4 : Hid (Streak w4 w.heap.size (run p ha ua (s, ok, n) (j + 1)).1 (run p ha ua (s, ok, n) (j + 1)).2.1 (run p ha ua (s, ok, n) (j + 1)).2.2 ha ua) := HS3.out.grown hg4 (by omega)
      have HM4 : Hid (Streak w4 gb (mir (run p ha ua (s, ok, n) (j + 1)).1) (!(run p ha ua (s, ok, n) (j + 1)).2.1) (run p ha ua (s, ok, n) (j + 1)).2.2 ua ha) := hM4
      clear hM4 hg4 CM cp3
      go_wp2
      go_roundw
      case rel => exact ⟨j + 1, by omega, by go_num, HS4.out, HM4.out, HB4.out⟩
      case measure => simp [intOf]; omega
    · obtain rfl : j = L := by omega
      obtain ⟨S, hS⟩ : ∃ S, S = (run p ha ua (s, ok, n) j).1 := ⟨_, rfl⟩
      obtain ⟨o, ho⟩ : ∃ o, o = (run p ha ua (s, ok, n) j).2.1 := ⟨_, rfl⟩
      obtain ⟨k, hk⟩ : ∃ k, k = (run p ha ua (s, ok, n) j).2.2 := ⟨_, rfl⟩
      rw [← hS, ← ho, ← hk] at hA hM
      have hk1 : 0 ≤ k ∧ k ≤ n + j := by rw [hk]; exact hbd
      obtain ⟨hk0, hk2⟩ := hk1
      have HRS : Hid (S = (run p ha ua (s, ok, n) j).1) := hS
      have HRO : Hid (o = (run p ha ua (s, ok, n) j).2.1) := ho
      have HRK : Hid (k = (run p ha ua (s, ok, n) j).2.2) := hk
      have CF := fields_any w.heap.size S o k ha ua wr hA
      have HM : Hid (Streak wr gb (mir S) (!o) k ua ha) := hM
      have HBe : Hid (Below w.heap.size w wr) := hbe
      clear hS ho hk hA hM hbe hbd
      go_wp2_with fail
      refine CF.mono ?_
      clear CF
      rintro e w3 ⟨rfl, q3, hq3⟩
      have HM3 : Hid (Streak w3 gb (mir S) (!o) k ua ha) := hq3 ▸ HM.out.drew q3
      have HB3 : Hid (Below w.heap.size w w3) := hq3 ▸ below_drewB q3 HBe.out
      clear hq3 HM HBe
      go_wp2_with fail
      refine (fields_any gb (mir S) (!o) k ua ha w3 HM3.out).mono ?_
      rintro e w4 ⟨rfl, q4, hq4⟩
      have HB4 : Hid (Below w.heap.size w w4) := hq4 ▸ below_drewB q4 HB3.out
      clear hq4 HM3 HB3
      go_wp2_with fail
      refine (mirror_any _ _).mono ?_
      rintro e w' ⟨rfl, hw'⟩
      obtain rfl := hw'.symm
      obtain ⟨M, hM⟩ : ∃ M, M = mir S := ⟨_, rfl⟩
      rw [← hM]
      clear hM hw'
      by_cases h0 : j = 0
      · subst h0
        obtain rfl : S = s := HRS.out
        obtain rfl : o = ok := HRO.out
        obtain rfl : k = n := HRK.out
        go_wp2
        go_ret
        exact ⟨rfl, HB4.out⟩
      · have hz : ((j : Int) == 0) = false := by simp; omega
        obtain ⟨bp, off, hap, hcp⟩ := HI.out.at (by omega)
        subst hap
        have HCP : Hid (∀ x, x < j → w4.cell? ⟨bp, off + x, none⟩ = some (.bool (p x))) := fun x hx => cell_later HB4.out (hcp x hx)
        clear hcp
        obtain ⟨v, hv⟩ : ∃ v, p (j - 1) = v := ⟨_, rfl⟩
        have cl := HCP.out (j - 1) (by omega)
        rw [hv] at cl
        have HV : Hid (p (j - 1) = v) := hv
        clear hv
        obtain ⟨wz, hwz⟩ : ∃ wz, wz = w4 := ⟨_, rfl⟩
        subst hwz
        go_upto_block 2 with fail
        clear cl
        go_cut [32] (fun a32 wx => ∃ T : Nat, 1 ≤ T ∧ T ≤ j ∧ a32 = .int .i64 T ∧ Hid (∀ x, j - T ≤ x → x < j → p x = v) ∧ Hid (T = j ∨ p (j - T - 1) ≠ v) ∧ wz = wx)
        case first =>
          go_wp2
          go_loop [32, 33] (fun a32 a33 => ∃ T : Nat, T ≤ j ∧ a32 = .int .i64 T ∧ a33 = .int .i64 ((j : Int) - 1 - T) ∧ Hid (∀ x, j - T ≤ x → x < j → p x = v)) (fun a32 _ => j - (intOf a32).toNat)
          case atStart => exact ⟨0, Nat.zero_le _, rfl, by go_num, fun x h1 h2 => by omega⟩
          case round =>
            obtain ⟨T, hT, rfl, rfl, hall⟩ := hrel
            by_cases hTj : T < j
            · have cq := HCP.out (j - 1 - T) (by omega)
              by_cases hpq : p (j - 1 - T) = v
              · rw [hpq] at cq
                have HPQ : Hid (p (j - 1 - T) = v) := hpq
                have gd : (0 : Int) ≤ (j : Int) - 1 - T := by omega
                have ad : ((j : Int) - 1 - (T : Int)).toNat = j - 1 - T := by omega
                clear hpq
                go_wp2
                go_round
                case rel => exact ⟨T + 1, by omega, by go_num, by go_num, fun x h1 h2 => by
                  by_cases e : x = j - 1 - T
                  · subst e; exact HPQ.out
                  · exact hall.out x (by omega) h2⟩
                case measure => simp [intOf]; omega
              · have e : p (j - 1 - T) = !v := bool_ne hpq
                rw [e] at cq
                have hT1 : 1 ≤ T := by
                  by_cases e0 : T = 0
                  · subst e0; exact absurd HV.out hpq
                  · omega
                have HNE : Hid (p (j - T - 1) ≠ v) := by rw [show j - T - 1 = j - 1 - T by omega]; exact hpq
                have gd : (0 : Int) ≤ (j : Int) - 1 - T := by omega
                have ad : ((j : Int) - 1 - (T : Int)).toNat = j - 1 - T := by omega
                have nb : ((!v) == v) = false := by cases v <;> rfl
                clear hpq e
                go_wp2
                go_meet
                case rel => exact ⟨T, hT1, hT, rfl, hall, .inr HNE.out, rfl⟩
            · have gd : ¬ (0 : Int) ≤ (j : Int) - 1 - T := by omega
              go_wp2
              go_meet
              case rel => exact ⟨T, by omega, hT, rfl, hall, .inl (by omega), rfl⟩
        case rest =>
          obtain ⟨T, hT1, hTj, rfl, hall, hend, rfl⟩ := hcut
          obtain ⟨f1, f2, f3⟩ := run_trail (p := p) (ha := ha) (ua := ua) (t0 := (s, ok, n)) hT1 hTj hall.out hend.out _ rfl
          have f1' : o = v := HRO.out.trans f1
          have HK : Hid (k = if T = j ∧ v = ok then (T : Int) + n else T) := HRK.out.trans f2
          have HF : Hid ((s = hS ∨ s = uS) → th v ha ua ≤ k → S = vd v) := fun h1 h2 => HRS.out.trans (f3 h1 (by rw [← f2, ← HRK.out]; exact h2))
          subst f1'
          clear f1 f2 f3 hall hend HV
          go_upto_region 35 with fail
          go_cut [190] (fun a190 wx => a190 = .bool (decide (T = j ∧ o = ok)) ∧ wz = wx)
          case first =>
            by_cases e1 : T = j
            · subst e1
              by_cases e2 : o = ok
              · subst e2
                have hb : (o == o) = true := by simp
                go_wp2
                go_meet
                case rel => exact ⟨by simp, rfl⟩
              · have hb : (o == ok) = false := beq_ne e2
                have HE : Hid (¬ o = ok) := e2
                clear e2
                go_wp2
                go_meet
                case rel => exact ⟨by simp [HE.out], rfl⟩
            · have hb : ((T : Int) == (j : Int)) = false := by simp; omega
              go_wp2
              go_meet
              case rel => exact ⟨by simp [e1], rfl⟩
          case rest =>
            obtain ⟨rfl, rfl⟩ := hcut
            go_upto_if 190 with fail
            go_cut [32] (fun a32 wx => a32 = .int .i64 k ∧ wz = wx)
            case first =>
              by_cases e1 : T = j ∧ o = ok
              · have hk' := HK.out
                rw [if_pos e1] at hk'
                have hd : decide (T = j ∧ o = ok) = true := by simpa using e1
                rw [hd]
                have HK3 : Hid ((T : Int) + n = k) := hk'.symm
                clear hk' hd e1
                go_wp2
                go_meet
                case rel => exact ⟨by rw [HK3.out], rfl⟩
              · have hk' := HK.out
                rw [if_neg e1] at hk'
                have hd : decide (T = j ∧ o = ok) = false := by simpa using e1
                rw [hd]
                have HK3 : Hid ((T : Int) = k) := hk'.symm
                clear hk' hd e1
                go_wp2
                go_meet
                case rel => exact ⟨by rw [HK3.out], rfl⟩
            case rest =>
              obtain ⟨rfl, rfl⟩ := hcut
              have bo : (o != o) = false := by simp
              have bk : (k != k) = false := by simp
              by_cases hs2 : s = hS ∨ s = uS
              · have HF2 : Hid (th o ha ua ≤ k → S = vd o) := HF.out hs2
                clear HF HK HRS HRO HRK
                rcases hs2 with rfl | rfl
                all_goals
                  cases o
                  · by_cases ht : ua ≤ k
                    · obtain rfl : S = uS := HF2.out ht
                      go_wp2
                      go_ret
                      exact ⟨rfl, HB4.out⟩
                    · go_wp2
                      go_ret
                      exact ⟨rfl, HB4.out⟩
                  · by_cases ht : ha ≤ k
                    · obtain rfl : S = hS := HF2.out ht
                      go_wp2
                      go_ret
                      exact ⟨rfl, HB4.out⟩
                    · go_wp2
                      go_ret
                      exact ⟨rfl, HB4.out⟩
              · have n1 := str_ne (l := [72, 69, 65, 76, 84, 72, 89]) (fun h => hs2 (.inl h)) (by rw [ByteArray.toList_eq])
                have n2 := str_ne (l := [85, 78, 72, 69, 65, 76, 84, 72, 89]) (fun h => hs2 (.inr h)) (by rw [ByteArray.toList_eq])
                go_wp2
                go_ret
                exact ⟨rfl, HB4.out⟩

end Go.Proofs.Qxb6617950a
