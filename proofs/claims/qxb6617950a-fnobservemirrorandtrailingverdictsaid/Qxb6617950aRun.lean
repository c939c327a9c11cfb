/-
  THE PLAIN LAW of a script of results: the streak, step by step, and a block of equal results.
-/
import Derived.Test.Qxb6617950aSmall
namespace Go.Proofs.Qxb6617950a
open Go.RowKit
set_option linter.unusedVariables false

/-- The state from which a result v can change it; the one that it makes; its threshold. -/
def fr (v : Bool) : ByteArray := if v = true then uS else hS
def vd (v : Bool) : ByteArray := if v = true then hS else uS
def th (v : Bool) (ha ua : Int) : Int := if v = true then ha else ua

theorem hu_ne : hS ≠ uS := by intro h; have := congrArg ByteArray.size h; revert this; decide
theorem vd_ne (v : Bool) : vd v ≠ fr v := by
  cases v
  · exact fun h => hu_ne h.symm
  · exact hu_ne
theorem chg_eq (s : ByteArray) (v : Bool) (m ha ua : Int) : chg s v m ha ua = decide (s = fr v ∧ th v ha ua ≤ m) := by
  cases v <;> simp [chg, fr, th]
theorem nxt_eq (s : ByteArray) (v : Bool) (m ha ua : Int) : nxt s v m ha ua = if s = fr v ∧ th v ha ua ≤ m then vd v else s := by
  unfold nxt
  rw [chg_eq]
  by_cases h : s = fr v ∧ th v ha ua ≤ m
  · rw [if_pos h]; simp [h, vd]
  · rw [if_neg h]; simp [h]

section
variable (p : Nat → Bool) (ha ua : Int)

def stp (t : ByteArray × Bool × Int) (b : Bool) : ByteArray × Bool × Int := (nxt t.1 b (cnt b t.2.1 t.2.2) ha ua, b, cnt b t.2.1 t.2.2)
def run (t0 : ByteArray × Bool × Int) : Nat → ByteArray × Bool × Int
  | 0 => t0
  | i + 1 => stp ha ua (run t0 i) (p i)
def ans (t0 : ByteArray × Bool × Int) (i : Nat) : Bool := chg (run p ha ua t0 i).1 (p i) (cnt (p i) (run p ha ua t0 i).2.1 (run p ha ua t0 i).2.2) ha ua

variable {p ha ua}
variable {t0 : ByteArray × Bool × Int}

theorem run_bound (h0 : 0 ≤ t0.2.2) (i : Nat) : 0 ≤ (run p ha ua t0 i).2.2 ∧ (run p ha ua t0 i).2.2 ≤ t0.2.2 + i := by
  induction i with
  | zero => simp [run, h0]
  | succ i ih =>
    have e : (run p ha ua t0 (i + 1)).2.2 = cnt (p i) (run p ha ua t0 i).2.1 (run p ha ua t0 i).2.2 := rfl
    rw [e]; unfold cnt; split <;> omega

/-- The count from which a block goes on. -/
def c0 (v o : Bool) (c : Int) : Int := if v = o then c else 0
theorem cnt_c0 (v o : Bool) (c : Int) : cnt v o c = c0 v o c + 1 := by unfold cnt c0; split <;> omega

/-- A BLOCK OF EQUAL RESULTS. -/
theorem run_block {i k : Nat} {S : ByteArray} {o v : Bool} {c : Int} (hr : run p ha ua t0 i = (S, o, c)) (hv : ∀ j, i ≤ j → j < k → p j = v) :
    ∀ t : Nat, 1 ≤ t → i + t ≤ k → run p ha ua t0 (i + t) = (if S = fr v ∧ th v ha ua ≤ c0 v o c + t then vd v else S, v, c0 v o c + t) := by
  intro t
  induction t with
  | zero => intro h; omega
  | succ t ih =>
    intro _ hk
    have e : run p ha ua t0 (i + (t + 1)) = stp ha ua (run p ha ua t0 (i + t)) (p (i + t)) := rfl
    rw [e, hv (i + t) (by omega) (by omega)]
    by_cases h0 : t = 0
    · subst h0
      rw [Nat.add_zero, hr]
      unfold stp
      simp only [cnt_c0, nxt_eq]
      simp
    · rw [ih (by omega) (by omega)]
      unfold stp
      have ec : cnt v v (c0 v o c + (t : Int)) = c0 v o c + ((t + 1 : Nat) : Int) := by simp only [cnt, if_true]; omega
      simp only [ec, nxt_eq]
      by_cases h : S = fr v ∧ th v ha ua ≤ c0 v o c + t
      · rw [if_pos h, if_neg (fun h' => vd_ne v h'.1), if_pos ⟨h.1, by omega⟩]
      · rw [if_neg h]

/-- The step at which a block changes the state, counted from 1. -/
def jj (v o : Bool) (c ha ua : Int) : Int := if c0 v o c + 1 < th v ha ua then th v ha ua - c0 v o c else 1

theorem jj_pos (v o : Bool) (c ha ua : Int) : 1 ≤ jj v o c ha ua := by unfold jj; split <;> omega

theorem ans_block {i k : Nat} {S : ByteArray} {o v : Bool} {c : Int} (hr : run p ha ua t0 i = (S, o, c)) (hv : ∀ j, i ≤ j → j < k → p j = v) (t : Nat) (hk : i + t < k) :
    ans p ha ua t0 (i + t) = decide (S = fr v ∧ (t : Int) + 1 = jj v o c ha ua) := by
  unfold ans
  rw [hv (i + t) (by omega) hk, chg_eq]
  by_cases h0 : t = 0
  · subst h0
    rw [Nat.add_zero, hr, cnt_c0]
    rw [decide_eq_decide]
    simp only
    unfold jj
    constructor
    · rintro ⟨a, b⟩; exact ⟨a, by rw [if_neg (by omega)]; omega⟩
    · rintro ⟨a, b⟩; refine ⟨a, ?_⟩; split at b <;> omega
  · rw [run_block hr hv t (by omega) (by omega)]
    have ec : cnt v v (c0 v o c + (t : Int)) = c0 v o c + ((t + 1 : Nat) : Int) := by simp only [cnt, if_true]; omega
    simp only [ec]
    rw [decide_eq_decide]
    by_cases h : S = fr v ∧ th v ha ua ≤ c0 v o c + t
    · rw [if_pos h]
      unfold jj
      constructor
      · rintro ⟨a, _⟩; exact absurd a (vd_ne v)
      · rintro ⟨_, b⟩; split at b <;> omega
    · rw [if_neg h]
      unfold jj
      constructor
      · rintro ⟨a, b⟩
        refine ⟨a, ?_⟩
        have : ¬ th v ha ua ≤ c0 v o c + t := fun hh => h ⟨a, hh⟩
        rw [if_pos (by omega)]; omega
      · rintro ⟨a, b⟩
        refine ⟨a, ?_⟩
        split at b <;> omega

/-- What 'want' holds when the blocks before place i are done. -/
def wantAt (p : Nat → Bool) (ha ua : Int) (t0 : ByteArray × Bool × Int) (i j : Nat) : Bool := decide (j < i) && ans p ha ua t0 j

theorem want_step {i k : Nat} {S : ByteArray} {o v : Bool} {c : Int} (hik : i ≤ k) (hr : run p ha ua t0 i = (S, o, c)) (hv : ∀ j, i ≤ j → j < k → p j = v) (j : Nat) :
    wantAt p ha ua t0 k j = if S = fr v ∧ jj v o c ha ua ≤ ((k - i : Nat) : Int) ∧ (j : Int) = i + jj v o c ha ua - 1 then true else wantAt p ha ua t0 i j := by
  have hj1 := jj_pos v o c ha ua
  unfold wantAt
  by_cases h1 : j < i
  · rw [if_neg (by omega)]
    simp [h1, show j < k by omega]
  · by_cases h2 : j < k
    · have e := ans_block hr hv (j - i) (by omega)
      rw [show i + (j - i) = j by omega] at e
      rw [e]
      simp only [h1, h2, decide_true, decide_false, Bool.true_and, Bool.false_and]
      by_cases hS : S = fr v ∧ ((j - i : Nat) : Int) + 1 = jj v o c ha ua
      · rw [if_pos ⟨hS.1, by omega, by omega⟩]; simp [hS]
      · rw [if_neg (fun h => hS ⟨h.1, by omega⟩)]; simp [hS]
    · rw [if_neg (by omega)]
      simp [h1, h2]
end

end Go.Proofs.Qxb6617950a
