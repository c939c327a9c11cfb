/-
  THE PROOF OF 'Rows.FnObserveMirrorAndTrailingVerdictSaid': the frame after the shells of this kit (six parameters: a string, a bool, three ints, a slice of bools); the walk lies in Qxb6617950aMirror.
-/
import Derived.Test.Qxb6617950aRows
import Derived.Test.Qxb6617950aMirror
import Derived.WalkKit
import Derived.ProofKit
import Derived.OpenShut
import Derived.ShutString
import Derived.ChangeOld
import Derived.Below
import Derived.Deep.Grids
namespace Go.Proofs.Qxb6617950a.fnObserveMirrorAndTrailingVerdict
open Go.ChangeShapes Go.WideShapes Go.ChangeAt Go.RowKit
open Go.ChangeMaps (open_string shut_string)
set_option linter.unusedVariables false

theorem own : ownKnob Try.prog.godebug = none := by kernel_rfl
theorem laidOut : laidOutB Try.prog = true := by kernel_rfl

/-- What the walk is told of the slice of bools that came in. -/
theorem binp_of {w : World} {x : Addr} {len cap : Nat} {B : Nat → Bool} (hl : len ≤ cap) (hc : ∀ i, i < cap → w.cell? (x.add i) = some (.bool (B i))) : BInp w (some x) len B := by
  refine ⟨?_⟩
  by_cases h : len = 0
  · exact .inl h
  · right
    obtain ⟨b, off, sp⟩ := x
    have h0 := hc 0 (by omega)
    have hsp : sp = none := by
      cases sp with
      | none => rfl
      | some q =>
        simp only [Addr.add, World.cell?] at h0
        split at h0 <;> simp at h0
    subst hsp
    refine ⟨b, off, rfl, fun j hj => ?_⟩
    have := hc j (by omega)
    rwa [show (⟨b, off, none⟩ : Addr).add j = ⟨b, off + j, none⟩ by unfold Addr.add; split <;> simp_all] at this

theorem walk (s : ByteArray) (ok : Bool) (n ha ua : Int) (a : Option Addr) (L c : Nat) (w : World) (hs : s.size ≤ maxLen) (hL : L ≤ maxLen) (wn : (Lit.int .i64 n).wf = true) (wh : (Lit.int .i64 ha).wf = true) (wu : (Lit.int .i64 ua).wf = true) (B : Nat → Bool) (hI : BInp w a L B) :
    Calls Try.prog 4 #[.string s, .bool ok, .int .i64 n, .int .i64 ha, .int .i64 ua, .slice a L c] w fun e w' => e = .returned (.bool true) ∧ Below w.heap.size w w' := by
  have bn := bounds_i64 wn
  have bh := bounds_i64 wh
  have bu := bounds_i64 wu
  by_cases h : s.size ≤ 65536 ∧ L ≤ 65536
  · by_cases hn : n < 0 ∨ 9223372036854775807 - (L : Int) < n
    · exact mirror_out s ok n ha ua a L c w h.1 h.2 hn
    · exact mirror_main s ok n ha ua a L c B w hI h.1 h.2 (by omega) (by omega) (by omega) (by omega)
  · exact mirror_big s ok n ha ua a L c w hs hL (by omega)

set_option maxRecDepth 100000 in
theorem lifted (os : Os) (started : os.Started) (H : Type) (enc : TypeId × Value → H) :
    ReturnsInHanded {} Try.checked os 4 .any (Rows.fnObserveMirrorAndTrailingVerdictSpec.pre6 enc Try.prog Try.f4 Rows.fnObserveMirrorAndTrailingVerdictRow.domain false) (Rows.fnObserveMirrorAndTrailingVerdictSpec.post enc Try.prog Try.f4 false true false false) := by
  refine returnsInHanded_of_change (C := Try.checked) own started (by kernel_rfl) Try.func4
    (ChangeSpec.witness6 (enc := enc) (C := Try.checked) false ⟨#[], #[.string ByteArray.empty, .bool false, .int .i64 0, .int .i64 0, .int .i64 0, .slice none 0 0], []⟩ 8 (by kernel_rfl) (by kernel_rfl) (by kernel_rfl) (by kernel_rfl)) ?_
  intro W base args ds gs before hval0 hW hcnd _
  have hval : ∀ (j : Nat) t v, Try.f4.params[j]? = some t → args[j]? = some v → Value.okWide Try.prog W .any base t v := hval0
  have hW' := hW
  obtain ⟨p, q, hA0, hV, rfl, hfz, hnd⟩ := hW
  have hA : DataW.TrodAll enc Try.prog W 0 (fun _ => true) true Try.f4.params.toList args.toList ds p := hA0
  rw [Try.params4] at hA hval
  obtain ⟨v0, vs0, d0, ds0, p0, q0, hargs, rfl, rfl, h0, r0⟩ := trodAll_cons hA
  obtain ⟨v1, vs1, d1, ds1, p1, q1, rfl, rfl, rfl, h1, r1⟩ := trodAll_cons r0
  obtain ⟨v2, vs2, d2, ds2, p2, q2, rfl, rfl, rfl, h2, r2⟩ := trodAll_cons r1
  obtain ⟨v3, vs3, d3, ds3, p3, q3, rfl, rfl, rfl, h3, r3⟩ := trodAll_cons r2
  obtain ⟨v4, vs4, d4, ds4, p4, q4, rfl, rfl, rfl, h4, r4⟩ := trodAll_cons r3
  obtain ⟨v5, vs5, d5, ds5, p5, q5, rfl, rfl, rfl, h5, r5⟩ := trodAll_cons r4
  obtain ⟨rfl, rfl, rfl⟩ := trodAll_nil r5
  obtain rfl : args = #[v0, v1, v2, v3, v4, v5] := by cases args; simp_all
  obtain ⟨rfl, rfl⟩ := trodVars_none hV
  obtain ⟨s, rfl, rfl, rfl, hs⟩ := open_string Try.underlying9 (hval 0 9 v0 rfl rfl) h0
  obtain ⟨b, rfl, rfl, rfl⟩ := open_bool Try.underlying4 (hval 1 4 v1 rfl rfl) h1
  obtain ⟨a2, rfl, rfl, rfl, w2⟩ := open_int Try.underlying3 (hval 2 3 v2 rfl rfl) h2
  obtain ⟨a3, rfl, rfl, rfl, w3⟩ := open_int Try.underlying3 (hval 3 3 v3 rfl rfl) h3
  obtain ⟨a4, rfl, rfl, rfl, w4⟩ := open_int Try.underlying3 (hval 4 3 v4 rfl rfl) h4
  obtain ⟨a5, len5, cap5, rfl⟩ := okWide_slice Try.underlying22 (hval 5 22 v5 rfl rfl)
  have k5 := h5
  have lt5 : ∀ x ∈ p5, x.block < W.heap.size := by obtain ⟨m, hm⟩ := k5; exact DataW.trod_lt m _ _ _ hm
  obtain ⟨B, hI, hL⟩ : ∃ B, BInp W a5 len5 B ∧ len5 ≤ maxLen := by
    obtain ⟨fuel, hf⟩ := h5
    rcases Go.Deep.open_bools Try.underlying22 Try.underlying4 (by kernel_rfl) hf with ⟨hcs, _⟩ | ⟨x, l, c, B, hcs, _, hl, hm, _, hcell⟩
    · simp [Value.cells] at hcs
      obtain ⟨rfl, rfl, rfl⟩ := hcs
      exact ⟨fun _ => false, ⟨.inl rfl⟩, Nat.zero_le _⟩
    · simp [Value.cells] at hcs
      obtain ⟨rfl, rfl, rfl⟩ := hcs
      exact ⟨B, binp_of hl hcell, Nat.le_trans hl hm⟩
  clear hA0 hval0
  refine (walk s b a2 a3 a4 a5 len5 cap5 W hs hL w2 w3 w4 B hI).mono fun e W' ⟨he, bel⟩ => ?_
  subst he
  exact ⟨_, rfl, _, _, _, [], _, [], hW', trodAll_mk1 (shut_bool Try.underlying4 _), (trodAll_cons_mk (shut_string Try.underlying9 hs) (trodAll_cons_mk (shut_bool Try.underlying4 _) (trodAll_cons_mk (shut_int Try.underlying3 w2) (trodAll_cons_mk (shut_int Try.underlying3 w3) (trodAll_cons_mk (shut_int Try.underlying3 w4) (trodAll_cons_mk (Below.trod laidOut (by kernel_rfl) (of_decide_eq_true (by kernel_rfl)) k5 bel lt5) trodAll_mk0)))))), rfl, bel.frame _, fun h => by cases h⟩

theorem over : Rows.fnObserveMirrorAndTrailingVerdictRow.holds Try.pinned (OpenSpec.ofChange Rows.fnObserveMirrorAndTrailingVerdictSpec) :=
  OpenClaim.holds_of_wide 4 Try.f4 rfl rfl rfl rfl rfl rfl rfl ⟨rfl, rfl, rfl, rfl, rfl⟩ rfl rfl rfl rfl rfl (by kernel_rfl) Try.func4 (by kernel_rfl)
    (of_decide_eq_true (by kernel_rfl)) (by unfold Func.isWrapper; first | (rw [if_pos (by decide +kernel)]; kernel_rfl) | (rw [if_neg (by decide +kernel)]; exact ⟨rfl, rfl⟩))
    (fun os started H enc _ => lifted os started H enc)

/-- THE STATEMENT -/
theorem proved : Rows.FnObserveMirrorAndTrailingVerdictSaid := over
#print axioms proved
end Go.Proofs.Qxb6617950a.fnObserveMirrorAndTrailingVerdict
