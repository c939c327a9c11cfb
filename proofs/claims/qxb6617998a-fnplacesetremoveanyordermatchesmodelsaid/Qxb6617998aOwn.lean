/-
  A placeSet in memory, and (*placeSet).remove (function 26).
-/
import Derived.Test.Qxb6617998aPlain
import Derived.Test.Qxb6617998aProg
import Derived.WalkKit
import Derived.WalkSpells
import Derived.Deep.QuietTactic
import Derived.BigQuiet
import Derived.BigRegion
import Derived.Deep.OwnRows
namespace Go.Proofs.Qxb6617998a
open Go.RowKit Go.Deep Plain
set_option linter.unusedVariables false

/-- A placeSet of the call's own: the outer row in block o, level k in block 'G k'; nothing below block B. -/
structure Own (B : Nat) (w : World) (o n : Nat) (G len : Nat → Nat) (F : Nat → Nat → Nat) : Prop where
  outer : ∀ k, k < n → w.cell? ⟨o, k, none⟩ = some (.slice (some ⟨G k, 0, none⟩) (len k) (len k))
  rows : ∀ k, k < n → w.rowIs (G k) 34 (len k) (fun j => .int .u64 (F k j : Nat))
  inj : ∀ k l, k < n → l < n → G k = G l → k = l
  ne : ∀ k, k < n → G k ≠ o
  lo : ∀ k, k < n → B ≤ G k

theorem Own.congr {B : Nat} {w : World} {o n : Nat} {G len : Nat → Nat} {F F' : Nat → Nat → Nat} (h : Own B w o n G len F) (e : ∀ k, k < n → ∀ j, j < len k → F' k j = F k j) : Own B w o n G len F' :=
  ⟨h.outer, fun k hk => (h.rows k hk).congr (fun j hj => by rw [e k hk j hj]), h.inj, h.ne, h.lo⟩

theorem Own.below {B : Nat} {w w' : World} {o n : Nat} {G len : Nat → Nat} {F : Nat → Nat → Nat} (h : Own B w o n G len F) (hb : Below w.heap.size w w') : Own B w' o n G len F :=
  ⟨fun k hk => cell_later hb (h.outer k hk), fun k hk => (h.rows k hk).of_block (hb.block _ (h.rows k hk).lt), h.inj, h.ne, h.lo⟩

/-- A word of one level is stored. -/
theorem Own.set {B : Nat} {w : World} {o n : Nat} {G len : Nat → Nat} {F F' : Nat → Nat → Nat} (h : Own B w o n G len F) (k x v : Nat) (hk : k < n) (e : ∀ l j, F' l j = if l = k ∧ j = x then v else F l j) : Own B (w.setCell ⟨G k, x, none⟩ (.int .u64 (v : Nat))) o n G len F' := by
  refine ⟨fun l hl => ?_, fun l hl => ?_, h.inj, h.ne, h.lo⟩
  · rw [World.cell?_setCell_other _ _ _ _ (fun e => h.ne k hk (congrArg Addr.block e))]
    exact h.outer l hl
  · by_cases hlk : l = k
    · subst hlk
      refine ((h.rows l hl).set x _).congr fun j hj => ?_
      rw [e l j]
      by_cases hj : j = x
      · simp [hj]
      · simp [hj]
    · refine ((h.rows l hl).setOther (fun e => hlk (h.inj l k hl hk e)) _).congr fun j hj => ?_
      rw [e l j, if_neg (fun h => hlk h.1)]

theorem pow_lt64 {b : Nat} (hb : b < 64) : 2 ^ b < 18446744073709551616 := Nat.pow_lt_pow_right (a := 2) (n := 64) (by omega) hb

theorem wrap_pow (b : Nat) (hb : b < 64) : IntKind.u64.wrap ((2 : Int) ^ b) = ((2 ^ b : Nat) : Int) := by
  rw [IntKind.wrap_u64]
  have h := pow_lt64 hb
  have e : ((2 : Int) ^ b) = ((2 ^ b : Nat) : Int) := by simp
  rw [e]
  revert h
  generalize 2 ^ b = p
  intro h
  omega

theorem andNot_eq (y b : Nat) (hy : y < 18446744073709551616) (hb : b < 64) : bits .andNot .u64 (y : Int) (IntKind.u64.wrap ((2 : Int) ^ b)) = ((clrw y b : Nat) : Int) := by
  rw [wrap_pow b hb, u64_andNot_nat y _ hy (pow_lt64 hb)]
  rfl

theorem cl_le (L k : Nat) (h : L ≤ 1000000) : cl L k ≤ 1000000 := by
  induction k with
  | zero => exact h
  | succ k ih => show (cl L k + 63) / 64 ≤ _; omega
theorem ix_le (i k : Nat) (h : i ≤ 100000000) : ix i k ≤ 100000000 := by
  induction k with
  | zero => exact h
  | succ k ih => show ix i k / 64 ≤ _; omega

theorem mix_step {f : Nat → Nat} {i k v : Nat} (hg : going f i k) (hv : v = clr (lv f k) (ix i k) (ix i k / 64)) (l j : Nat) : mix f i (k + 1) l j = if l = k ∧ j = ix i k / 64 then v else mix f i k l j := by
  unfold mix
  by_cases hl : l = k
  · subst hl
    rw [if_pos (by omega), if_neg (Nat.lt_irrefl _), hg j]
    by_cases hj : j = ix i l / 64
    · subst hj; rw [if_pos ⟨rfl, rfl⟩, hv]
    · rw [if_neg (fun h => hj h.2)]
      unfold clr
      rw [if_neg hj]
  · have e1 : (l < k + 1) = (l < k) := by simp; omega
    simp only [e1, hl, false_and, if_false]

theorem mix_done {f : Nat → Nat} {i k : Nat} (hg : going f i k) (h : clr (lv f k) (ix i k) (ix i k / 64) ≠ 0) (l j : Nat) : lv (clr f i) l j = mix f i (k + 1) l j := by
  unfold mix
  by_cases hl : l < k + 1
  · rw [if_pos hl]
  · rw [if_neg hl]; exact done_step f i k hg h l (by omega) j

theorem Own.drew {B : Nat} {w : World} {o n : Nat} {G len : Nat → Nat} {F : Nat → Nat → Nat} (h : Own B w o n G len F) : Own B w.drew o n G len F := ⟨h.outer, h.rows, h.inj, h.ne, h.lo⟩

set_option maxHeartbeats 1000000 in
theorem remove_any (B s o n cap L i : Nat) (G : Nat → Nat) (f : Nat → Nat) (w : World) (hO : Own B w o n G (cl L) (lv f)) (hs : w.cell? ⟨s, 0, none⟩ = some (.slice (some ⟨o, 0, none⟩) n cap)) (hn : n ≤ 1000000) (hL : L ≤ 1000000) (hi : i / 64 < L)
    (hf : ∀ x, f x < 18446744073709551616) :
    Calls Try.prog 26 #[.pointer (some ⟨s, 0, none⟩), .int .i64 i] w fun e w' => e = .returned (.tuple #[]) ∧ Own B w' o n G (cl L) (lv (clr f i)) ∧ Below B w w' ∧ w'.heap.size = w.heap.size ∧ (∀ b, (∀ l, l < n → G l ≠ b) → w'.heap[b]? = w.heap[b]?) := by
  go_enter Try.func26, Try.ntmps26
  go_wp2
  go_loopw [1, 12] (fun a1 a12 wr => ∃ k : Nat, k ≤ n ∧ a12 = .int .i64 k ∧ a1 = .int .i64 (ix i k : Nat) ∧ Hid (going f i k) ∧ Own B wr o n G (cl L) (mix f i k) ∧ Below B w wr ∧ wr.heap.size = w.heap.size ∧ Hid (∀ b, (∀ l, l < n → G l ≠ b) → wr.heap[b]? = w.heap[b]?)) (fun _ a12 _ => n - (intOf a12).toNat)
  case atStart => exact ⟨0, Nat.zero_le _, rfl, rfl, going_zero f i, hO.congr (fun k _ j _ => mix_zero f i k j), Below.refl _ _, rfl, fun _ _ => rfl⟩
  case round =>
    obtain ⟨k, hk, rfl, rfl, hgo, hOr, hbe, hsz, hkp⟩ := hrel
    have HO : Hid (Own B wr o n G (cl L) (mix f i k)) := hOr
    have HB : Hid (Below B w wr) := hbe
    have HZ : Hid (wr.heap.size = w.heap.size) := hsz
    clear hOr hbe hsz
    by_cases hlt : k < n
    · have c1 := HO.out.outer k hlt
      have hx := ix_lt L i hi k
      have hr := HO.out.rows k hlt
      have c2 := hr.cell hx
      have f2 := hr.frozen (ix i k / 64)
      simp only [mix, Nat.lt_irrefl, if_false] at c2
      obtain ⟨x, hxe⟩ : ∃ x, x = ix i k := ⟨_, rfl⟩
      obtain ⟨y, hye⟩ : ∃ y, y = lv f k (x / 64) := ⟨_, rfl⟩
      have hy64 : y < 18446744073709551616 := by rw [hye]; exact lv_lt f hf k _
      have hLk : cl L k ≤ 1000000 := cl_le L k hL
      have hxb : x ≤ 100000000 := by rw [hxe]; exact ix_le i k (by omega)
      rw [← hxe] at c2 f2 hx
      rw [← hye] at c2
      rw [← hxe]
      have HXE : Hid (x = ix i k) := hxe
      have HYE : Hid (y = lv f k (x / 64)) := hye
      have han := andNot_eq y (x % 64) hy64 (by omega)
      obtain ⟨v, hv⟩ : ∃ v, v = clrw y (x % 64) := ⟨_, rfl⟩
      rw [← hv] at han
      have hvc : v = clr (lv f k) (ix i k) (ix i k / 64) := by
        unfold clr
        rw [if_pos rfl, hv, hye, hxe]
      have HVC : Hid (v = clr (lv f k) (ix i k) (ix i k / 64)) := hvc
      have HO2 : Hid (Own B (wr.setCell ⟨G k, x / 64, none⟩ (.int .u64 (v : Nat))).drew o n G (cl L) (mix f i (k + 1))) :=
        (HO.out.set k (x / 64) v hlt (fun l j => by rw [hxe]; exact mix_step hgo.out hvc l j)).drew
      have HB2 : Hid (Below B w (wr.setCell ⟨G k, x / 64, none⟩ (.int .u64 (v : Nat))).drew) := (HB.out.setCell (HO.out.lo k hlt) _).drew
      have HKP : Hid (∀ b, (∀ l, l < n → G l ≠ b) → (wr.setCell ⟨G k, x / 64, none⟩ (.int .u64 (v : Nat))).drew.heap[b]? = w.heap[b]?) := fun b hb =>
        (heap_setCell_other wr ⟨G k, x / 64, none⟩ b _ (fun e => hb k hlt e.symm)).trans (hkp.out b hb)
      clear hr hxe hye hv hvc
      by_cases hv0 : v = 0
      · subst hv0
        go_wp2
        go_region
        go_wp2
        go_roundw
        case rel => exact ⟨k + 1, by omega, by go_num, by rw [HXE.out]; rfl, going_step f i k hgo.out HVC.out.symm, HO2.out, HB2.out, by simp [World.setCell, World.drew]; exact HZ.out, HKP.out⟩
        case measure => simp [intOf]; omega
      · have hvb : ((v : Int) != 0) = true := by simp; omega
        go_wp2
        go_region
        go_wp2
        refine bodyPost_ret (results_none rfl _ _ _) rfl ?_
        exact ⟨rfl, HO2.out.congr (fun l _ j _ => mix_done hgo.out (by rw [← HVC.out]; exact hv0) l j), HB2.out, by simp [World.setCell, World.drew]; exact HZ.out, HKP.out⟩
    · obtain rfl : k = n := by omega
      go_wp2
      go_end0
      exact ⟨rfl, HO.out.congr (fun l hl j _ => by unfold mix; rw [if_pos hl]), HB.out, HZ.out, hkp.out⟩

end Go.Proofs.Qxb6617998a
