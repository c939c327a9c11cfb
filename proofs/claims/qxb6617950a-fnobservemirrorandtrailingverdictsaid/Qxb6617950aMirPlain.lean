/-
  THE PLAIN LAW of the mirrored streak, and of the trailing run.
-/
import Derived.Test.Qxb6617950aRun
namespace Go.Proofs.Qxb6617950a
open Go.RowKit
set_option linter.unusedVariables false

theorem mir_h : mir hS = uS := by simp [mir]
theorem mir_u : mir uS = hS := by simp [mir, hu_ne.symm]
theorem mir_fr (s : ByteArray) (b : Bool) : mir s = fr (!b) ↔ s = fr b := by
  unfold mir
  by_cases h : s = hS
  · subst h
    rw [if_pos rfl]
    cases b
    · exact ⟨fun _ => rfl, fun _ => rfl⟩
    · exact ⟨fun e => absurd e hu_ne.symm, fun e => absurd e hu_ne⟩
  · rw [if_neg h]
    by_cases k : s = uS
    · subst k
      rw [if_pos rfl]
      cases b
      · exact ⟨fun e => absurd e hu_ne, fun e => absurd e hu_ne.symm⟩
      · exact ⟨fun _ => rfl, fun _ => rfl⟩
    · rw [if_neg k]
      cases b
      · exact ⟨fun e => absurd e k, fun e => absurd e h⟩
      · exact ⟨fun e => absurd e h, fun e => absurd e k⟩
theorem mir_vd (b : Bool) : mir (vd b) = vd (!b) := by cases b <;> simp [vd, mir_h, mir_u]
theorem th_not (b : Bool) (ha ua : Int) : th (!b) ua ha = th b ha ua := by cases b <;> rfl
theorem cnt_not (b o : Bool) (n : Int) : cnt (!b) (!o) n = cnt b o n := by cases b <;> cases o <;> rfl

/-- The mirror of a streak. -/
def mirS (t : ByteArray × Bool × Int) : ByteArray × Bool × Int := (mir t.1, !t.2.1, t.2.2)

theorem chg_mir (s : ByteArray) (b : Bool) (m ha ua : Int) : chg (mir s) (!b) m ua ha = chg s b m ha ua := by
  rw [chg_eq, chg_eq, th_not, decide_eq_decide, mir_fr]
theorem nxt_mir (s : ByteArray) (b : Bool) (m ha ua : Int) : nxt (mir s) (!b) m ua ha = mir (nxt s b m ha ua) := by
  rw [nxt_eq, nxt_eq, th_not]
  by_cases h : s = fr b ∧ th b ha ua ≤ m
  · rw [if_pos h, if_pos ⟨(mir_fr s b).2 h.1, h.2⟩, mir_vd]
  · rw [if_neg h, if_neg (fun h' => h ⟨(mir_fr s b).1 h'.1, h'.2⟩)]

section
variable {p : Nat → Bool} {ha ua : Int} {t0 : ByteArray × Bool × Int}

theorem run_mir (i : Nat) : run (fun j => !p j) ua ha (mirS t0) i = mirS (run p ha ua t0 i) := by
  induction i with
  | zero => rfl
  | succ i ih =>
    show stp ua ha (run (fun j => !p j) ua ha (mirS t0) i) (!p i) = mirS (stp ha ua (run p ha ua t0 i) (p i))
    rw [ih]
    unfold stp mirS
    simp only [cnt_not, nxt_mir]

theorem ans_mir (i : Nat) : ans (fun j => !p j) ua ha (mirS t0) i = ans p ha ua t0 i := by
  unfold ans
  rw [run_mir]
  unfold mirS
  simp only [cnt_not, chg_mir]

/-- The states stay among the two. -/
theorem run_two (h : t0.1 = hS ∨ t0.1 = uS) (i : Nat) : (run p ha ua t0 i).1 = hS ∨ (run p ha ua t0 i).1 = uS := by
  induction i with
  | zero => exact h
  | succ i ih =>
    show nxt _ _ _ _ _ = hS ∨ nxt _ _ _ _ _ = uS
    rw [nxt_eq]
    split
    · cases p i
      · exact .inr rfl
      · exact .inl rfl
    · exact ih

theorem run_ok (i : Nat) : (run p ha ua t0 (i + 1)).2.1 = p i := rfl

/-- THE TRAILING RUN of T equal results v behind L results. -/
theorem run_trail {L T : Nat} {v : Bool} (hT : 1 ≤ T) (hTL : T ≤ L) (hv : ∀ j, L - T ≤ j → j < L → p j = v) (hend : T = L ∨ p (L - T - 1) ≠ v) (Lf : Int) (hLf : Lf = if T = L ∧ v = t0.2.1 then (T : Int) + t0.2.2 else T) :
    (run p ha ua t0 L).2.1 = v ∧ (run p ha ua t0 L).2.2 = Lf ∧ ((t0.1 = hS ∨ t0.1 = uS) → th v ha ua ≤ Lf → (run p ha ua t0 L).1 = vd v) := by
  have hb := run_block (p := p) (ha := ha) (ua := ua) (t0 := t0) (i := L - T) (k := L) (S := (run p ha ua t0 (L - T)).1) (o := (run p ha ua t0 (L - T)).2.1) (c := (run p ha ua t0 (L - T)).2.2) rfl hv T hT (by omega)
  rw [show L - T + T = L by omega] at hb
  have hc : c0 v (run p ha ua t0 (L - T)).2.1 (run p ha ua t0 (L - T)).2.2 + T = Lf := by
    rw [hLf]
    by_cases e : T = L
    · subst e
      rw [Nat.sub_self]
      show c0 v t0.2.1 t0.2.2 + T = _
      unfold c0
      by_cases hvo : v = t0.2.1
      · rw [if_pos hvo, if_pos ⟨rfl, hvo⟩]; omega
      · rw [if_neg hvo, if_neg (fun h => hvo h.2)]; omega
    · have hne : p (L - T - 1) ≠ v := by
        rcases hend with h | h
        · exact absurd h e
        · exact h
      have ho : (run p ha ua t0 (L - T)).2.1 = p (L - T - 1) := by
        have := run_ok (p := p) (ha := ha) (ua := ua) (t0 := t0) (L - T - 1)
        rwa [show L - T - 1 + 1 = L - T by omega] at this
      rw [ho, if_neg (fun h => e h.1)]
      unfold c0
      rw [if_neg (fun h => hne h.symm)]; omega
  rw [hc] at hb
  rw [hb]
  refine ⟨rfl, rfl, fun h hth => ?_⟩
  have h2 := run_two (p := p) (ha := ha) (ua := ua) h (L - T)
  simp only
  by_cases hS : (run p ha ua t0 (L - T)).1 = fr v
  · rw [if_pos ⟨hS, hth⟩]
  · rw [if_neg (fun h => hS h.1)]
    cases v
    · rcases h2 with h2 | h2
      · exact absurd h2 hS
      · exact h2
    · rcases h2 with h2 | h2
      · exact h2
      · exact absurd h2 hS
end

end Go.Proofs.Qxb6617950a
