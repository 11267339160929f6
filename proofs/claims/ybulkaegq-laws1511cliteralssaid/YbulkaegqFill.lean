/-
  SEAT b1511a: a row of runes in a block of the call's own, known whole; the laws on it.
-/
import Derived.Test.YbulkaegqLine
import Derived.Test.YbulkaegqBefore
import Derived.OwnWalk
namespace Go.Proofs.Ybulkaegq
open Go.RowKit
set_option linter.unusedVariables false

theorem Yba.info21 : (Yba.prog.info? 21).map (fun i => (i.zero, i.size, i.bytes)) = some (some (.int .i32 0), 1, 4) := by kernel_rfl

theorem Ends.calls {w : World} {g : Nat} {n : Int} (h : Ends w g n) : Calls Yba.prog 19 #[.pointer (some ⟨g, 0, none⟩)] w fun e w' => e = .returned (.int .i64 n) ∧ w' = w := h

/-- Block B holds just the runes Z. -/
def Row (w : World) (B : Nat) (Z : List Int) : Prop := w.heap[B]? = some (.cells (Z.map (Value.int .i32)).toArray 21 (0, 0))

theorem Row.cell {w : World} {B : Nat} {Z : List Int} (h : Row w B Z) (j : Nat) (hj : j < Z.length) : w.cell? ⟨B, j, none⟩ = some (.int .i32 (Z.getD j 0)) := by
  rw [cell_of_row w B j _ 21 (0, 0) h]
  simp [List.getD, hj]

theorem Row.frozen {w : World} {B : Nat} {Z : List Int} (h : Row w B Z) (j : Nat) : w.frozen? ⟨B, j, none⟩ = false := frozen_of_row w B j _ 21 h

theorem Row.lt {w : World} {B : Nat} {Z : List Int} (h : Row w B Z) : B < w.heap.size := (Array.getElem?_eq_some_iff.1 h).1

theorem Row.set {w : World} {B : Nat} {Z : List Int} (h : Row w B Z) (j : Nat) (u : Int) : Row (w.setCell ⟨B, j, none⟩ (.int .i32 u)) B (Z.set j u) := by
  have := heap_setCell_same w B j _ 21 (.int .i32 u) h
  unfold Row
  rw [this]
  simp [List.map_set]

theorem Row.below {w w' : World} {B C : Nat} {Z : List Int} (h : Row w B Z) (hb : Below C w w') (hB : B < C) : Row w' B Z := by
  unfold Row
  rw [hb.block B hB]
  exact h

theorem row_of_owns {w : World} {base B n : Nat} {Z : List Int} (h : w.ownsRow base 21 1 (.slice (some ⟨B, 0, none⟩) n n) n (Z.map (Value.int .i32))) : Row w B Z := by
  rcases h.2 with ⟨h', _⟩ | ⟨g, cap, cur, h', _, hg, _, _, hs, ht⟩
  · simp at h'
  · simp only [Value.slice.injEq, Option.some.injEq, Addr.mk.injEq, and_true, true_and] at h'
    obtain ⟨rfl, rfl⟩ := h'
    have : cur = (Z.map (Value.int .i32)).toArray := by
      rw [← ht, List.take_of_length_le (by rw [Array.length_toList, hs]; exact Nat.le_refl _)]
    unfold Row
    rw [hg, this]

theorem made_is (n : Nat) : (madeCells #[Value.int .i32 0] n).toList = (List.replicate n (0 : Int)).map (Value.int .i32) := by
  rw [List.map_replicate]
  exact toList_madeCells_one _ n

end Go.Proofs.Ybulkaegq
