/-
  bytes.HasPrefix (function 23), its second argument of three bytes; bytes.Equal (24) is entered in place.
-/
import Derived.Test.Qxb6617877aProg
import Derived.Test.Qxb6617877aPlain
import Derived.WalkKit
import Derived.Laws.BytesArg
import Derived.Lib.SlBytesConst
namespace Go.Proofs.Qxb6617877a
open Go.RowKit Plain

theorem has3 (b1 o1 n c b2 : Nat) (x0 x1 x2 y0 y1 y2 : Int) (w : World) (hnc : n ≤ c) (h3 : 3 ≤ n)
    (hx0 : w.cell? ⟨b1, o1, none⟩ = some (.int .u8 x0)) (hx1 : w.cell? ⟨b1, o1 + 1, none⟩ = some (.int .u8 x1)) (hx2 : w.cell? ⟨b1, o1 + 2, none⟩ = some (.int .u8 x2))
    (hy0 : w.cell? ⟨b2, 0, none⟩ = some (.int .u8 y0)) (hy1 : w.cell? ⟨b2, 1, none⟩ = some (.int .u8 y1)) (hy2 : w.cell? ⟨b2, 2, none⟩ = some (.int .u8 y2)) :
    Calls Try.prog 23 #[.slice (some ⟨b1, o1, none⟩) n c, .slice (some ⟨b2, 0, none⟩) 3 3] w fun e w' => e = .returned (.bool ((strOfNums [x0, x1, x2]).toList == (strOfNums [y0, y1, y2]).toList)) ∧ w' = w := by
  have g2 := run_convert_bytes_arg (P := Try.prog) w 22 5 Try.underlying22 Try.underlying5 b2 0 3 3 [y0, y1, y2] rfl (fun i hi => by
    match i, hi with
    | 0, _ => exact hy0
    | 1, _ => exact hy1
    | 2, _ => exact hy2) 9 Try.underlying9
  have g1 := run_convert_bytes_arg (P := Try.prog) w 22 5 Try.underlying22 Try.underlying5 b1 o1 3 c [x0, x1, x2] rfl (fun i hi => by
    match i, hi with
    | 0, _ => exact hx0
    | 1, _ => exact hx1
    | 2, _ => exact hx2) 9 Try.underlying9
  clear hx0 hx1 hx2 hy0 hy1 hy2
  go_enter Try.func23, Try.ntmps23
  go_wp2
  go_ret
  exact ⟨rfl, rfl⟩
theorem has_short (ao : Option Addr) (n c : Nat) (b2 : Nat) (w : World) (h3 : n < 3) :
    Calls Try.prog 23 #[.slice ao n c, .slice (some ⟨b2, 0, none⟩) 3 3] w fun e w' => e = .returned (.bool false) ∧ w' = w := by
  have hz : ¬ ((3 : Int) ≤ (n : Int)) := by omega
  go_enter Try.func23, Try.ntmps23
  go_wp2
  go_ret
  exact ⟨rfl, rfl⟩

theorem byte_eq (x y : Int) (hx : 0 ≤ x ∧ x ≤ 255) (hy : 0 ≤ y ∧ y ≤ 255) : (UInt8.ofNat x.toNat == UInt8.ofNat y.toNat) = decide (x = y) := by
  by_cases h : x = y
  · subst h; simp
  · rw [decide_eq_false h]
    rw [beq_eq_false_iff_ne]
    intro e
    have e' := congrArg UInt8.toNat e
    simp only [UInt8.toNat_ofNat'] at e'
    omega

theorem eq3 (x0 x1 x2 y0 y1 y2 : Int) (h0 : 0 ≤ x0 ∧ x0 ≤ 255) (h1 : 0 ≤ x1 ∧ x1 ≤ 255) (h2 : 0 ≤ x2 ∧ x2 ≤ 255) (k0 : 0 ≤ y0 ∧ y0 ≤ 255) (k1 : 0 ≤ y1 ∧ y1 ≤ 255) (k2 : 0 ≤ y2 ∧ y2 ≤ 255) :
    ((strOfNums [x0, x1, x2]).toList == (strOfNums [y0, y1, y2]).toList) = decide (x0 = y0 ∧ x1 = y1 ∧ x2 = y2) := by
  have e : ∀ a b c : Int, (strOfNums [a, b, c]).toList = [UInt8.ofNat a.toNat, UInt8.ofNat b.toNat, UInt8.ofNat c.toNat] := fun a b c => by
    rw [ByteArray.toList_eq]; rfl
  rw [e, e]
  simp only [List.cons_beq_cons, byte_eq _ _ h0 k0, byte_eq _ _ h1 k1, byte_eq _ _ h2 k2]
  simp [Bool.decide_and]

/-- A constant string made a byte slice: the row's number written out as the walk writes it. -/
theorem conv_const (w : World) (C : Array Value) (m n c : Nat) (hm : w.heap.size = m) :
    (convert 22 22 (.slice (some ⟨m, 0, none⟩) n c)).run Try.prog (w.alloc (.cells C 5)) = .ok (.slice (some ⟨m, 0, none⟩) n c) (w.alloc (.cells C 5 (C.size, C.size + 1))) := by
  subst hm
  exact Lib.run_convert_bytes_const (P := Try.prog) w 22 5 C n c Try.underlying22 Try.underlying5

/-- The literal's own row. -/
theorem lit_cells (w : World) (y0 y1 y2 : Int) :
    (w.alloc (.cells #[.int .u8 y0, .int .u8 y1, .int .u8 y2] 5 (3, 4))).cell? ⟨w.heap.size, 0, none⟩ = some (.int .u8 y0) ∧
    (w.alloc (.cells #[.int .u8 y0, .int .u8 y1, .int .u8 y2] 5 (3, 4))).cell? ⟨w.heap.size, 1, none⟩ = some (.int .u8 y1) ∧
    (w.alloc (.cells #[.int .u8 y0, .int .u8 y1, .int .u8 y2] 5 (3, 4))).cell? ⟨w.heap.size, 2, none⟩ = some (.int .u8 y2) := by
  refine ⟨?_, ?_, ?_⟩ <;> rw [World.cell?_alloc_mark] <;> rfl

/-- bytes.HasPrefix at a constant of three bytes that is laid just ahead of the call. -/
theorem has_lit (b1 o1 n c : Nat) (x0 x1 x2 y0 y1 y2 : Int) (w : World) (v : Bool) (hnc : n ≤ c) (h3 : 3 ≤ n)
    (hx0 : w.cell? ⟨b1, o1, none⟩ = some (.int .u8 x0)) (hx1 : w.cell? ⟨b1, o1 + 1, none⟩ = some (.int .u8 x1)) (hx2 : w.cell? ⟨b1, o1 + 2, none⟩ = some (.int .u8 x2))
    (h0 : 0 ≤ x0 ∧ x0 ≤ 255) (h1 : 0 ≤ x1 ∧ x1 ≤ 255) (h2 : 0 ≤ x2 ∧ x2 ≤ 255) (k0 : 0 ≤ y0 ∧ y0 ≤ 255) (k1 : 0 ≤ y1 ∧ y1 ≤ 255) (k2 : 0 ≤ y2 ∧ y2 ≤ 255)
    (hv : decide (x0 = y0 ∧ x1 = y1 ∧ x2 = y2) = v) :
    Calls Try.prog 23 #[.slice (some ⟨b1, o1, none⟩) n c, .slice (some ⟨w.heap.size, 0, none⟩) 3 3] (w.alloc (.cells #[.int .u8 y0, .int .u8 y1, .int .u8 y2] 5 (3, 4)))
      fun e w' => e = .returned (.bool v) ∧ w' = w.alloc (.cells #[.int .u8 y0, .int .u8 y1, .int .u8 y2] 5 (3, 4)) := by
  rw [← hv, ← eq3 x0 x1 x2 y0 y1 y2 h0 h1 h2 k0 k1 k2]
  obtain ⟨l0, l1, l2⟩ := lit_cells w y0 y1 y2
  exact has3 b1 o1 n c _ x0 x1 x2 y0 y1 y2 _ hnc h3 (Lib.cell?_alloc_marked _ hx0) (Lib.cell?_alloc_marked _ hx1) (Lib.cell?_alloc_marked _ hx2) l0 l1 l2

end Go.Proofs.Qxb6617877a
