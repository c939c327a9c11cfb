/-
  THE PROOF OF 'Rows.FnPlaceSetRemoveAnyOrderMatchesModelSaid': the frame after the shells of this kit (a slice of slices of uint64, two ints); the walk lies in Qxb6617998aSet.
-/
import Derived.Test.Qxb6617998aRows
import Derived.Test.Qxb6617998aSet
import Derived.WalkKit
import Derived.ProofKit
import Derived.OpenShut
import Derived.ShutString
import Derived.ChangeOld
import Derived.Below
import Derived.Deep.Matrix
namespace Go.Proofs.Qxb6617998a.fnPlaceSetRemoveAnyOrderMatchesModel
open Go.ChangeShapes Go.WideShapes Go.ChangeAt Go.RowKit
open Go.ChangeMaps (open_string shut_string)
set_option linter.unusedVariables false

theorem own : ownKnob Try.prog.godebug = none := by kernel_rfl
theorem laidOut : laidOutB Try.prog = true := by kernel_rfl

def blk (a : Option Addr) : Nat := match a with | some x => x.block | none => 0
def off (a : Option Addr) : Nat := match a with | some x => x.off | none => 0

/-- What the walk is told of the levels that came in. -/
theorem rl_of {w : World} {a : Addr} {n cap : Nat} {A : Nat → Option Addr} {L C : Nat → Nat} {Z : Nat → List Int} (hn : 1 ≤ n) (hl : n ≤ cap)
    (h : ∀ r, r < cap → w.cell? (a.add r) = some (.slice (A r) (L r) (C r)) ∧ L r ≤ C r ∧ C r ≤ maxLen ∧ (Z r).length = C r ∧ (∀ n ∈ Z r, (Lit.int .u64 n).wf = true) ∧ (A r = none → C r = 0) ∧
      ∀ a', A r = some a' → 0 ≤ a'.block ∧ ∀ c, c < C r → w.cell? (a'.add c) = some (.int .u64 ((Z r).getD c 0))) :
    ∃ bo oo F, a = ⟨bo, oo, none⟩ ∧ RL w bo oo n A L C (fun k => blk (A k)) (fun k => off (A k)) F ∧ (∀ k j, F k j < 18446744073709551616) ∧ ∀ k, k < n → L k ≤ maxLen := by
  obtain ⟨bo, oo, sp⟩ := a
  have hsp : sp = none := by simpa [Addr.add] using World.cell?_spot (h 0 (by omega)).1
  subst hsp
  have bnd : ∀ k j, ((Z k).getD j 0).toNat < 18446744073709551616 ∨ ¬ (k < cap ∧ j < C k) := by
    intro k j
    by_cases hk : k < cap ∧ j < C k
    · left
      obtain ⟨_, _, _, hz, hw, _⟩ := h k hk.1
      have hj : j < (Z k).length := by omega
      have e : (Z k).getD j 0 = (Z k)[j] := by simp [hj]
      have hb := bounds_u64 (hw _ (List.getElem_mem hj))
      rw [e]; omega
    · exact .inr hk
  refine ⟨bo, oo, fun k j => if k < cap ∧ j < C k then ((Z k).getD j 0).toNat else 0, rfl, ⟨fun k hk => ?_, fun k hk hp => ?_, fun k hk j hj => ?_⟩, fun k j => ?_, fun k hk => ?_⟩
  · rw [← add_any_block]; exact (h k (by omega)).1
  · obtain ⟨_, h1, _, _, _, h5, h6⟩ := h k (by omega)
    cases ha : A k with
    | none => have := h5 ha; omega
    | some x =>
      obtain ⟨b, o, sp⟩ := x
      have hs : sp = none := by simpa [Addr.add] using World.cell?_spot ((h6 _ ha).2 0 (by omega))
      subst hs
      rfl
  · obtain ⟨_, h1, _, hz, hw, h5, h6⟩ := h k (by omega)
    cases ha : A k with
    | none => have := h5 ha; omega
    | some x =>
      obtain ⟨b, o, sp⟩ := x
      have hs : sp = none := by simpa [Addr.add] using World.cell?_spot ((h6 _ ha).2 0 (by omega))
      subst hs
      have hc := (h6 _ ha).2 j (by omega)
      rw [add_any_block] at hc
      show w.cell? ⟨b, o + j, none⟩ = _
      rw [hc, if_pos ⟨by omega, by omega⟩]
      have hj' : j < (Z k).length := by omega
      have e : (Z k).getD j 0 = (Z k)[j] := by simp [hj']
      have hb := bounds_u64 (hw _ (List.getElem_mem hj'))
      congr 2
      rw [e]; omega
  · show (if k < cap ∧ j < C k then ((Z k).getD j 0).toNat else 0) < _
    split
    · rename_i hk
      rcases bnd k j with h1 | h1
      · exact h1
      · exact absurd hk h1
    · omega
  · obtain ⟨_, h1, h2, _⟩ := h k (by omega)
    exact Nat.le_trans h1 h2

set_option maxRecDepth 100000 in
theorem lifted (os : Os) (started : os.Started) (H : Type) (enc : TypeId × Value → H) :
    ReturnsInHanded {} Try.checked os 6 .any (Rows.fnPlaceSetRemoveAnyOrderMatchesModelSpec.pre6 enc Try.prog Try.f6 Rows.fnPlaceSetRemoveAnyOrderMatchesModelRow.domain false) (Rows.fnPlaceSetRemoveAnyOrderMatchesModelSpec.post enc Try.prog Try.f6 false true false false) := by
  refine returnsInHanded_of_change (C := Try.checked) own started (by kernel_rfl) Try.func6
    (ChangeSpec.witness6 (enc := enc) (C := Try.checked) false ⟨#[], #[.slice none 0 0, .int .i64 0, .int .i64 0], []⟩ 8 (by kernel_rfl) (by kernel_rfl) (by kernel_rfl) (by kernel_rfl)) ?_
  intro W base args ds gs before hval0 hW hcnd _
  have hval : ∀ (j : Nat) t v, Try.f6.params[j]? = some t → args[j]? = some v → Value.okWide Try.prog W .any base t v := hval0
  have hW' := hW
  obtain ⟨p, q, hA0, hV, rfl, hfz, hnd⟩ := hW
  have hA : DataW.TrodAll enc Try.prog W 0 (fun _ => true) true Try.f6.params.toList args.toList ds p := hA0
  rw [Try.params6] at hA hval
  obtain ⟨v0, vs0, d0, ds0, p0, q0, hargs, rfl, rfl, h0, r0⟩ := trodAll_cons hA
  obtain ⟨v1, vs1, d1, ds1, p1, q1, rfl, rfl, rfl, h1, r1⟩ := trodAll_cons r0
  obtain ⟨v2, vs2, d2, ds2, p2, q2, rfl, rfl, rfl, h2, r2⟩ := trodAll_cons r1
  obtain ⟨rfl, rfl, rfl⟩ := trodAll_nil r2
  obtain rfl : args = #[v0, v1, v2] := by cases args; simp_all
  obtain ⟨rfl, rfl⟩ := trodVars_none hV
  obtain ⟨a0, len0, cap0, rfl⟩ := okWide_slice Try.underlying22 (hval 0 22 v0 rfl rfl)
  have k0 := h0
  have lt0 : ∀ x ∈ p0, x.block < W.heap.size := by obtain ⟨m, hm⟩ := k0; exact DataW.trod_lt m _ _ _ hm
  obtain ⟨a1, rfl, rfl, rfl, w1⟩ := open_int Try.underlying3 (hval 1 3 v1 rfl rfl) h1
  obtain ⟨a2, rfl, rfl, rfl, w2⟩ := open_int Try.underlying3 (hval 2 3 v2 rfl rfl) h2
  have b1 := bounds_i64 w1
  have b2 := bounds_i64 w2
  have hwalk : Calls Try.prog 6 #[.slice a0 len0 cap0, .int .i64 a1, .int .i64 a2] W fun e w' => e = .returned (.bool true) ∧ Below W.heap.size W w' := by
    obtain ⟨fuel, hf⟩ := h0
    rcases Go.Deep.open_int_rows Try.underlying22 Try.underlying27 Try.underlying34 (by kernel_rfl) (by kernel_rfl) hf with ⟨hcs, _⟩ | ⟨x, l, c, A, L, C, Z, hcs, _, hl, hm, _, hrow⟩
    · simp [Value.cells] at hcs
      obtain ⟨rfl, rfl, rfl⟩ := hcs
      exact set_zero _ _ _ _ _
    · simp [Value.cells] at hcs
      obtain ⟨rfl, rfl, rfl⟩ := hcs
      by_cases hz : len0 = 0
      · subst hz
        exact set_zero _ _ _ _ _
      · obtain ⟨bo, oo, F, rfl, hRL, h64, hLm⟩ := rl_of (by omega) hl hrow
        by_cases hneg : a1 < 0 ∨ a2 < 0
        · exact set_neg bo oo len0 cap0 a1 a2 A L C _ _ F W hRL (Nat.le_trans hl hm) hLm hneg
        · obtain ⟨i, rfl⟩ := Int.eq_ofNat_of_zero_le (show 0 ≤ a1 by omega)
          obtain ⟨j, rfl⟩ := Int.eq_ofNat_of_zero_le (show 0 ≤ a2 by omega)
          exact set_main bo oo len0 cap0 i j A L C _ _ F W hRL (by omega) (Nat.le_trans hl hm) hLm h64 (by omega) (by omega)
  clear hA0 hval0
  refine hwalk.mono fun e W' ⟨he, bel⟩ => ?_
  subst he
  exact ⟨_, rfl, _, _, _, [], _, [], hW', trodAll_mk1 (shut_bool Try.underlying4 _), (trodAll_cons_mk (Below.trod laidOut (by kernel_rfl) (of_decide_eq_true (by kernel_rfl)) k0 bel lt0) (trodAll_cons_mk (shut_int Try.underlying3 w1) (trodAll_cons_mk (shut_int Try.underlying3 w2) trodAll_mk0))), rfl, bel.frame _, fun h => by cases h⟩

theorem over : Rows.fnPlaceSetRemoveAnyOrderMatchesModelRow.holds Try.pinned (OpenSpec.ofChange Rows.fnPlaceSetRemoveAnyOrderMatchesModelSpec) :=
  OpenClaim.holds_of_wide 6 Try.f6 rfl rfl rfl rfl rfl rfl rfl ⟨rfl, rfl, rfl, rfl, rfl⟩ rfl rfl rfl rfl rfl (by kernel_rfl) Try.func6 (by kernel_rfl)
    (of_decide_eq_true (by kernel_rfl)) (by unfold Func.isWrapper; first | (rw [if_pos (by decide +kernel)]; kernel_rfl) | (rw [if_neg (by decide +kernel)]; exact ⟨rfl, rfl⟩))
    (fun os started H enc _ => lifted os started H enc)

/-- THE STATEMENT -/
theorem proved : Rows.FnPlaceSetRemoveAnyOrderMatchesModelSaid := over
#print axioms proved
end Go.Proofs.Qxb6617998a.fnPlaceSetRemoveAnyOrderMatchesModel
