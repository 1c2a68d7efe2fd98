import Derived.Test.YbulkfvgRows
import Derived.WalkKit
import Derived.ProofKit
import Derived.OpenShut
import Derived.ChangeOld
import Derived.Below
import Derived.Deep.QuietTactic
import Derived.BigQuiet
import Derived.RegionTactic
import Derived.Deep.DeepCutAuto
import Derived.Laws.CopyOwn
import Derived.WalkSpells
namespace Go.Proofs.Ybulkfvg
open Go.RowKit
set_option linter.unusedVariables false

theorem hid {p : Prop} (h : p) : Hid p := h

/-- The decoder, the whole of its block. -/
def Dec (w : World) (g : Nat) (v : Value) (off : Nat) (s : Bool) : Prop := w.heap[g]? = some (.cells #[v, .int .i64 (off : Int), .bool s] 27 (0, 0))
theorem Dec.c0 {w : World} {g : Nat} {v : Value} {off : Nat} {s : Bool} (h : Dec w g v off s) : w.cell? ⟨g, 0, none⟩ = some v := by rw [cell_of_row w g 0 _ 27 (0, 0) h]; rfl
theorem Dec.c1 {w : World} {g : Nat} {v : Value} {off : Nat} {s : Bool} (h : Dec w g v off s) : w.cell? ⟨g, 1, none⟩ = some (.int .i64 (off : Int)) := by rw [cell_of_row w g 1 _ 27 (0, 0) h]; rfl
theorem Dec.c2 {w : World} {g : Nat} {v : Value} {off : Nat} {s : Bool} (h : Dec w g v off s) : w.cell? ⟨g, 2, none⟩ = some (.bool s) := by rw [cell_of_row w g 2 _ 27 (0, 0) h]; rfl
theorem Dec.frozen {w : World} {g : Nat} {v : Value} {off : Nat} {s : Bool} (h : Dec w g v off s) (i : Nat) : w.frozen? ⟨g, i, none⟩ = false := frozen_of_row w g i _ 27 h
theorem drewN_heap (w : World) (n : Nat) : (w.drewN n).heap = w.heap := by simp
theorem Dec.drewN {w : World} {g : Nat} {v : Value} {off : Nat} {s : Bool} (h : Dec w g v off s) (n : Nat) : Dec (w.drewN n) g v off s := by unfold Dec at *; rw [drewN_heap]; exact h
theorem Dec.set1 {w : World} {g : Nat} {v : Value} {off : Nat} {s : Bool} (h : Dec w g v off s) (m : Nat) : Dec (w.setCell ⟨g, 1, none⟩ (.int .i64 (m : Int))) g v m s := by
  unfold Dec; rw [heap_setCell_same w g 1 _ 27 _ h]; rfl
theorem Dec.set2 {w : World} {g : Nat} {v : Value} {off : Nat} {s : Bool} (h : Dec w g v off s) (t : Bool) : Dec (w.setCell ⟨g, 2, none⟩ (.bool t)) g v off t := by
  unfold Dec; rw [heap_setCell_same w g 2 _ 27 _ h]; rfl
theorem grown_set (w : World) (n g i : Nat) (x : Value) : w.grownBy ((w.drewN n).setCell ⟨g, i, none⟩ x) (some g) :=
  ⟨rfl, rfl, rfl, by simp [World.setCell], fun k hk hne => by
    have hk' : k ≠ g := fun e => hne (by rw [e])
    rw [heap_setCell_other _ _ _ _ hk', drewN_heap]⟩

theorem bytes_short (gd len cap off : Nat) (ao : Option Addr) (n : Int) (s : Bool) (w : World) (hD : Dec w gd (.slice ao len cap) off s) (hl : len ≤ 4096) (ho : off ≤ len) (hn : (len : Int) - off < n) (hn2 : n ≤ 4294967295) :
    Calls Yba.prog 4 #[.pointer (some ⟨gd, 0, none⟩), .int .u32 n] w fun e w' => e = .returned (.slice none 0 0) ∧ Dec w' gd (.slice ao len cap) off true ∧ w.grownBy w' (some gd) := by
  have c0 := hD.c0
  have c1 := hD.c1
  have c2 := hD.c2
  have f2 := hD.frozen 2
  go_enter Yba.func4, Yba.ntmps4
  go_wp2
  go_quiet (fail)
  go_wp2
  go_ret
  exact ⟨rfl, (hD.drewN _).set2 true, grown_set w _ gd 2 _⟩

/-- Enough bytes are left, and one at least stands behind the offset. -/
theorem bytes_in (gd g len off m : Nat) (s : Bool) (w : World) (hD : Dec w gd (.slice (some ⟨g, 0, none⟩) len len) off s) (hl : len ≤ 4096) (ho : off < len) (hm : off + m ≤ len) :
    Calls Yba.prog 4 #[.pointer (some ⟨gd, 0, none⟩), .int .u32 (m : Int)] w fun e w' => e = .returned (.slice (some ⟨g, off, none⟩) m (len - off)) ∧ Dec w' gd (.slice (some ⟨g, 0, none⟩) len len) (off + m) s ∧ w.grownBy w' (some gd) := by
  have c0 := hD.c0
  have c1 := hD.c1
  have f1 := hD.frozen 1
  have hlt : ¬ (len : Int) - off < m := by omega
  have hne : ¬ len = off := by omega
  go_enter Yba.func4, Yba.ntmps4
  go_wp2
  go_quiet (fail)
  go_wp2
  go_quiet (fail)
  go_wp2
  go_ret
  refine ⟨?_, ?_, grown_set w _ gd 1 _⟩
  · show Ending.returned (.slice (some ⟨g, off, none⟩) (off + m - off) (len - off)) = _
    rw [show off + m - off = m by omega]
  · exact (hD.drewN _).set1 (off + m)

/-- Nothing is left, and nothing is asked for. -/
theorem bytes_end (gd len : Nat) (ao : Option Addr) (s : Bool) (w : World) (hao : (ao = none ∧ len = 0) ∨ ∃ g, ao = some ⟨g, 0, none⟩) (hD : Dec w gd (.slice ao len len) len s) (hl : len ≤ 4096) :
    Calls Yba.prog 4 #[.pointer (some ⟨gd, 0, none⟩), .int .u32 0] w fun e w' => (∃ ga, e = .returned (.slice ga 0 0)) ∧ Dec w' gd (.slice ao len len) len s ∧ w.grownBy w' (some gd) := by
  have c0 := hD.c0
  have c1 := hD.c1
  have f1 := hD.frozen 1
  rcases hao with ⟨rfl, rfl⟩ | ⟨g, rfl⟩
  · go_enter Yba.func4, Yba.ntmps4
    go_wp2
    go_quiet (fail)
    go_wp2
    go_quiet (fail)
    go_wp2
    go_ret
    exact ⟨⟨_, rfl⟩, (hD.drewN _).set1 _, grown_set w _ gd 1 _⟩
  · go_enter Yba.func4, Yba.ntmps4
    go_wp2
    go_quiet (fail)
    go_wp2
    go_quiet (fail)
    go_wp2
    go_ret
    exact ⟨⟨_, rfl⟩, (hD.drewN _).set1 _, grown_set w _ gd 1 _⟩

theorem bytes_ok (gd len off m : Nat) (ao : Option Addr) (s : Bool) (w : World) (hao : (ao = none ∧ len = 0) ∨ ∃ g, ao = some ⟨g, 0, none⟩) (hD : Dec w gd (.slice ao len len) off s) (hl : len ≤ 4096) (hm : off + m ≤ len) :
    Calls Yba.prog 4 #[.pointer (some ⟨gd, 0, none⟩), .int .u32 (m : Int)] w fun e w' => ∃ ga gc, e = .returned (.slice ga m gc) ∧ Hid (0 < m → ∃ g, ao = some ⟨g, 0, none⟩ ∧ ga = some ⟨g, off, none⟩) ∧ Dec w' gd (.slice ao len len) (off + m) s ∧ w.grownBy w' (some gd) := by
  by_cases ho : off < len
  · rcases hao with ⟨rfl, rfl⟩ | ⟨g, rfl⟩
    · omega
    · refine (bytes_in gd g len off m s w hD hl ho hm).mono ?_
      rintro e w' ⟨rfl, h1, h2⟩
      exact ⟨_, _, rfl, fun _ => ⟨g, rfl, rfl⟩, h1, h2⟩
  · obtain rfl : m = 0 := by omega
    obtain rfl : off = len := by omega
    refine (bytes_end gd off ao s w hao hD hl).mono ?_
    rintro e w' ⟨⟨ga, rfl⟩, h1, h2⟩
    exact ⟨_, _, rfl, fun h => absurd h (Nat.lt_irrefl _), h1, h2⟩
end Go.Proofs.Ybulkfvg
