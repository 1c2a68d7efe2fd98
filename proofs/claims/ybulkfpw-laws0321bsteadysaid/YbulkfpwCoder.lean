import Derived.Test.YbulkfpwRows
import Derived.WalkKit
import Derived.ProofKit
import Derived.OpenShut
import Derived.ChangeOld
import Derived.Below
import Derived.RegionTactic
namespace Go.Proofs.Ybulkfpw
open Go.RowKit
set_option linter.unusedVariables false

/-- The coder, the whole of its block. -/
def Coder (w : World) (g : Nat) (p s : Int) (b : Bool) : Prop := w.heap[g]? = some (.cells #[.int .i64 p, .int .u64 s, .bool b] 36 (0, 0))
theorem Coder.lt {w : World} {g : Nat} {p s : Int} {b : Bool} (h : Coder w g p s b) : g < w.heap.size := (Array.getElem?_eq_some_iff.1 h).1
theorem Coder.c0 {w : World} {g : Nat} {p s : Int} {b : Bool} (h : Coder w g p s b) : w.cell? ⟨g, 0, none⟩ = some (.int .i64 p) := by rw [cell_of_row w g 0 _ 36 (0, 0) h]; rfl
theorem Coder.c1 {w : World} {g : Nat} {p s : Int} {b : Bool} (h : Coder w g p s b) : w.cell? ⟨g, 1, none⟩ = some (.int .u64 s) := by rw [cell_of_row w g 1 _ 36 (0, 0) h]; rfl
theorem Coder.c2 {w : World} {g : Nat} {p s : Int} {b : Bool} (h : Coder w g p s b) : w.cell? ⟨g, 2, none⟩ = some (.bool b) := by rw [cell_of_row w g 2 _ 36 (0, 0) h]; rfl
theorem Coder.frozen {w : World} {g : Nat} {p s : Int} {b : Bool} (h : Coder w g p s b) (i : Nat) : w.frozen? ⟨g, i, none⟩ = false := frozen_of_row w g i _ 36 h
theorem Coder.set {w : World} {g : Nat} {p s : Int} {b : Bool} (h : Coder w g p s b) (p' s' : Int) (b' : Bool) :
    Coder (((w.setCell ⟨g, 0, none⟩ (.int .i64 p')).setCell ⟨g, 1, none⟩ (.int .u64 s')).setCell ⟨g, 2, none⟩ (.bool b')) g p' s' b' := by
  have h1 := heap_setCell_same w g 0 _ 36 (.int .i64 p') h
  have h2 := heap_setCell_same _ g 1 _ 36 (.int .u64 s') h1
  have h3 := heap_setCell_same _ g 2 _ 36 (.bool b') h2
  exact h3

theorem grown_set (w : World) (g : Nat) (x y z : Value) : w.grownBy (((w.setCell ⟨g, 0, none⟩ x).setCell ⟨g, 1, none⟩ y).setCell ⟨g, 2, none⟩ z) (some g) :=
  ⟨rfl, rfl, rfl, by simp [World.setCell], fun k hk hne => by
    have hk' : k ≠ g := fun e => hne (by rw [e])
    rw [heap_setCell_other _ _ _ _ hk', heap_setCell_other _ _ _ _ hk', heap_setCell_other _ _ _ _ hk']⟩

theorem after_any (g : Nat) (p s t step : Int) (b : Bool) (w : World) (h : Coder w g p s b) :
    Calls Yba.prog 10 #[.pointer (some ⟨g, 0, none⟩), .int .i64 t, .int .u64 step] w fun e w' => e = .returned (.tuple #[]) ∧ Coder w' g t (if b then step else 0) true ∧ w.grownBy w' (some g) := by
  have c0 := h.c0
  have c1 := h.c1
  have c2 := h.c2
  have f0 := h.frozen 0
  have f1 := h.frozen 1
  have f2 := h.frozen 2
  cases b with
  | true =>
    have hs := h.set t step true
    have hb := grown_set w g (.int .i64 t) (.int .u64 step) (.bool true)
    clear h
    go_enter Yba.func10, Yba.ntmps10
    go_wp2
    go_end0
    exact ⟨rfl, hs, hb⟩
  | false =>
    have hs := h.set t 0 true
    have hb := grown_set w g (.int .i64 t) (.int .u64 0) (.bool true)
    clear h
    go_enter Yba.func10, Yba.ntmps10
    go_wp2
    go_end0
    exact ⟨rfl, hs, hb⟩

theorem after_law (prev step t s : Int) (b : Bool) (w : World) :
    Calls Yba.prog 6 #[.int .i64 prev, .int .u64 step, .bool b, .int .i64 t, .int .u64 s] w fun e w' => e = .returned (.bool true) ∧ Below w.heap.size w w' := by
  have hC : Coder (w.alloc (.cells #[.int .i64 prev, .int .u64 step, .bool b] 36)) w.heap.size prev step b := heap_alloc_new w _
  have hA := after_any w.heap.size prev step t s b _ hC
  have hB : Below w.heap.size w (w.alloc (.cells #[.int .i64 prev, .int .u64 step, .bool b] 36)) := (Below.refl _ _).alloc (Nat.le_refl _) _
  cases b with
  | true =>
    go_enter Yba.func6, Yba.ntmps6
    go_wp2_with fail
    refine hA.mono ?_
    rintro e w1 ⟨rfl, hC1, hB1⟩
    have c0 := hC1.c0
    have c1 := hC1.c1
    have c2 := hC1.c2
    have HB : Hid (Below w.heap.size w w1) := hB.grown hB1 (by simp) (by simp)
    clear hC1 hB1 hA hC hB
    go_wp2
    go_ret
    exact ⟨rfl, HB.out⟩
  | false =>
    go_enter Yba.func6, Yba.ntmps6
    go_wp2_with fail
    refine hA.mono ?_
    rintro e w1 ⟨rfl, hC1, hB1⟩
    have c0 := hC1.c0
    have c1 := hC1.c1
    have c2 := hC1.c2
    have HB : Hid (Below w.heap.size w w1) := hB.grown hB1 (by simp) (by simp)
    clear hC1 hB1 hA hC hB
    go_wp2
    go_ret
    exact ⟨rfl, HB.out⟩
end Go.Proofs.Ybulkfpw
