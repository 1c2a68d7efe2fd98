import Derived.Test.YbulkfkmWide
namespace Go.Proofs.Ybulkfkm
open Go.RowKit
set_option linter.unusedVariables false

/-- Blocks outside S are as they were; nothing has gone. -/
structure Touch (S : Nat → Prop) (w w' : World) : Prop where
  os : w'.os = w.os
  tape : w'.tape = w.tape
  output : w'.output = w.output
  size : w.heap.size ≤ w'.heap.size
  block : ∀ k, k < w.heap.size → ¬ S k → w'.heap[k]? = w.heap[k]?
theorem Touch.refl (S : Nat → Prop) (w : World) : Touch S w w := ⟨rfl, rfl, rfl, Nat.le_refl _, fun _ _ _ => rfl⟩
theorem Touch.trans {S : Nat → Prop} {a b c : World} (h : Touch S a b) (k : Touch S b c) : Touch S a c :=
  ⟨k.os.trans h.os, k.tape.trans h.tape, k.output.trans h.output, Nat.le_trans h.size k.size, fun i hi hS => (k.block i (Nat.lt_of_lt_of_le hi h.size) hS).trans (h.block i hi hS)⟩
theorem Touch.mono {S T : Nat → Prop} {a b : World} (h : Touch S a b) (hST : ∀ k, S k → T k) : Touch T a b := ⟨h.os, h.tape, h.output, h.size, fun k hk hT => h.block k hk (fun hS => hT (hST k hS))⟩
theorem Same.touch {w w' : World} (h : Same w w') (S : Nat → Prop) : Touch S w w' := ⟨h.os, h.tape, h.output, by rw [h.heap]; exact Nat.le_refl _, fun k _ _ => by rw [h.heap]⟩
theorem touch_setCell (S : Nat → Prop) (w : World) (a : Addr) (v : Value) (h : S a.block) : Touch S w (w.setCell a v) :=
  ⟨rfl, rfl, rfl, by simp [World.setCell], fun k hk hS => heap_setCell_other w a k v (fun e => hS (e ▸ h))⟩
theorem touch_setRow (S : Nat → Prop) (w : World) (g : Nat) (cs : Array Value) (h : S g) : Touch S w (w.setRow g cs) :=
  ⟨rfl, rfl, rfl, by simp [World.setRow], fun k hk hS => setRow_other w g k cs (fun e => hS (e ▸ h))⟩
theorem Touch.below {S : Nat → Prop} {w w' : World} {B : Nat} (h : Touch S w w') (hB : B ≤ w.heap.size) (hS : ∀ k, S k → B ≤ k) : Below B w w' :=
  ⟨h.os, h.tape, h.output, h.size, fun k hk => h.block k (by omega) (fun hs => by have := hS k hs; omega)⟩
theorem touch_of_grown {w w' : World} {row : Option Nat} (h : w.grownBy w' row) : Touch (fun k => row = some k) w w' := ⟨h.os, h.tape, h.output, h.size, fun k hk hS => h.block k hk (fun e => hS e.symm)⟩
theorem touch_alloc (S : Nat → Prop) (w : World) (o : Obj) : Touch S w (w.alloc o) := ⟨rfl, rfl, rfl, by simp, fun k hk _ => Below.heap_alloc w o k hk⟩

def digs (d : Nat) (f : Nat → Int) : List Value := (List.range d).map fun i => Value.int .u64 (f i)
theorem digs_len (d : Nat) (f : Nat → Int) : (digs d f).length = d := by simp [digs]
theorem digs_get (d : Nat) (f : Nat → Int) (i : Nat) (h : i < d) : (digs d f)[i]? = some (.int .u64 (f i)) := by simp [digs, h]
theorem digs_congr {d : Nat} {f g : Nat → Int} (h : ∀ i, i < d → f i = g i) : digs d f = digs d g := by
  unfold digs
  exact List.map_congr_left (fun i hi => by rw [h i (by simpa using hi)])

/-- A row of d digits, the whole of its block. -/
def Row (w : World) (g d : Nat) (f : Nat → Int) : Prop := w.heap[g]? = some (.cells (digs d f).toArray 23 (0, 0))
def upd (f : Nat → Int) (i : Nat) (x : Int) : Nat → Int := fun j => if j = i then x else f j

theorem Row.lt {w : World} {g d : Nat} {f : Nat → Int} (h : Row w g d f) : g < w.heap.size := (Array.getElem?_eq_some_iff.1 h).1
theorem Row.num {w : World} {g d : Nat} {f : Nat → Int} (h : Row w g d f) : Num w g d f := by
  intro i hi
  rw [cell_of_row w g i _ 23 (0, 0) h]
  simpa using digs_get d f i hi
theorem Row.frozen {w : World} {g d : Nat} {f : Nat → Int} (h : Row w g d f) (i : Nat) : w.frozen? ⟨g, i, none⟩ = false := frozen_of_row w g i _ 23 h
theorem Row.set {w : World} {g d : Nat} {f : Nat → Int} (h : Row w g d f) (i : Nat) (x : Int) : Row (w.setCell ⟨g, i, none⟩ (.int .u64 x)) g d (upd f i x) := by
  unfold Row
  rw [heap_setCell_same w g i _ 23 _ h]
  have e : ((digs d f).toArray.setIfInBounds i (.int .u64 x)) = (digs d (upd f i x)).toArray := by
    rw [List.setIfInBounds_toArray]
    congr 1
    apply List.ext_getElem?
    intro j
    by_cases hj : j < d
    · rw [digs_get d _ j hj, List.getElem?_set]
      by_cases e : i = j
      · subst e; simp [digs_len, hj, upd]
      · rw [if_neg e, digs_get d f j hj]; simp [upd, Ne.symm e]
    · rw [List.getElem?_eq_none (by simp [digs_len]; omega), List.getElem?_eq_none (by simp [digs_len]; omega)]
  rw [e]
theorem Row.congr {w : World} {g d : Nat} {f f' : Nat → Int} (h : Row w g d f) (he : ∀ i, i < d → f i = f' i) : Row w g d f' := by
  unfold Row at *; rw [← digs_congr he]; exact h
theorem Touch.row {S : Nat → Prop} {w w' : World} {g d : Nat} {f : Nat → Int} (t : Touch S w w') (h : Row w g d f) (hg : ¬ S g) : Row w' g d f := (t.block g h.lt hg).trans h
theorem row_of_made {w : World} {base g n : Nat} (h : w.ownsRow base 23 1 (.slice (some ⟨g, 0, none⟩) n n) n (madeCells (Value.int .u64 0).cells (n * 1)).toList) : Row w g n (fun _ => 0) := by
  rcases h.2 with ⟨h', _⟩ | ⟨g', cap, cur, h', _, hg, _, _, hcs, htake⟩
  · simp at h'
  · simp only [Value.slice.injEq, Option.some.injEq, Addr.mk.injEq, and_true, true_and] at h'
    obtain ⟨rfl, rfl⟩ := h'
    rw [List.take_of_length_le (by rw [Array.length_toList, hcs]; exact Nat.le_refl _)] at htake
    have e : cur = (digs n (fun _ => 0)).toArray := by
      rw [← Array.toArray_toList (xs := cur), htake, Nat.mul_one, show (Value.int .u64 0).cells = #[.int .u64 0] from rfl, toList_madeCells_one]
      congr 1
      unfold digs
      apply List.ext_getElem?
      intro j
      by_cases hj : j < n
      · simp [hj]
      · simp [hj]
    unfold Row
    rw [hg, e]

/-- The source: the answers, and how many have been given. -/
def Src (w : World) (g : Nat) (a : Option Addr) (n c k : Nat) : Prop := w.heap[g]? = some (.cells #[.slice a n c, .int .i64 (k : Int)] 27 (0, 0))
theorem Src.lt {w : World} {g : Nat} {a : Option Addr} {n c k : Nat} (h : Src w g a n c k) : g < w.heap.size := (Array.getElem?_eq_some_iff.1 h).1
theorem Src.c0 {w : World} {g : Nat} {a : Option Addr} {n c k : Nat} (h : Src w g a n c k) : w.cell? ⟨g, 0, none⟩ = some (.slice a n c) := by rw [cell_of_row w g 0 _ 27 (0, 0) h]; rfl
theorem Src.c1 {w : World} {g : Nat} {a : Option Addr} {n c k : Nat} (h : Src w g a n c k) : w.cell? ⟨g, 1, none⟩ = some (.int .i64 (k : Int)) := by rw [cell_of_row w g 1 _ 27 (0, 0) h]; rfl
theorem Src.frozen {w : World} {g : Nat} {a : Option Addr} {n c k : Nat} (h : Src w g a n c k) (i : Nat) : w.frozen? ⟨g, i, none⟩ = false := frozen_of_row w g i _ 27 h
theorem Src.set {w : World} {g : Nat} {a : Option Addr} {n c k : Nat} (h : Src w g a n c k) (m : Nat) : Src (w.setCell ⟨g, 1, none⟩ (.int .i64 (m : Int))) g a n c m := by
  unfold Src; rw [heap_setCell_same w g 1 _ 27 _ h]; rfl
theorem Touch.src {S : Nat → Prop} {w w' : World} {g : Nat} {a : Option Addr} {n c k : Nat} (t : Touch S w w') (h : Src w g a n c k) (hg : ¬ S g) : Src w' g a n c k := (t.block g h.lt hg).trans h
theorem Same.src {w w' : World} {g : Nat} {a : Option Addr} {n c k : Nat} (t : Same w w') (h : Src w g a n c k) : Src w' g a n c k := by unfold Src at *; rw [t.heap]; exact h
theorem Same.row {w w' : World} {g d : Nat} {f : Nat → Int} (t : Same w w') (h : Row w g d f) : Row w' g d f := by unfold Row at *; rw [t.heap]; exact h

/-- The list of answers, lying below block B. -/
def ValsB (B : Nat) (w : World) (a : Option Addr) (n : Nat) (f : Nat → Int) : Prop :=
  ∀ i, i < n → ∃ b o, a = some ⟨b, o, none⟩ ∧ b < B ∧ w.cell? ⟨b, o + i, none⟩ = some (.int .u64 (f i))
theorem ValsB.vals {B : Nat} {w : World} {a : Option Addr} {n : Nat} {f : Nat → Int} (h : ValsB B w a n f) : Vals w a n f := by
  intro i hi
  obtain ⟨b, o, ha, _, hc⟩ := h i hi
  exact ⟨b, o, ha, hc⟩
theorem ValsB.below {B : Nat} {w w' : World} {a : Option Addr} {n : Nat} {f : Nat → Int} (h : ValsB B w a n f) (hb : Below B w w') : ValsB B w' a n f := by
  intro i hi
  obtain ⟨b, o, ha, hB, hc⟩ := h i hi
  exact ⟨b, o, ha, hB, (hb.cell (p := ⟨b, o + i, none⟩) hB).trans hc⟩

theorem uint64_row (B : Nat) (a : Option Addr) (n c k gs : Nat) (f : Nat → Int) (w : World) (h : ValsB B w a n f) (hn : n ≤ 4096) (hk : k ≤ 100000000) (hs : Src w gs a n c k) :
    Calls Yba.prog 31 #[.pointer (some ⟨gs, 0, none⟩)] w fun e w' => e = .returned (.int .u64 (ansAt f n k)) ∧ Src w' gs a n c (k + 1) ∧ Touch (fun k => k = gs) w w' := by
  refine (uint64_any a n c k gs f w h.vals hn hk hs.c0 hs.c1 (hs.frozen 1)).mono ?_
  rintro e w' ⟨rfl, hw⟩
  exact ⟨rfl, hw.src (hs.set (k + 1)), (touch_setCell (fun k => k = gs) w ⟨gs, 1, none⟩ _ rfl).trans (hw.touch _)⟩

theorem Yba.info23 : (Yba.prog.info? 23).map (fun i => (i.zero, i.size, i.bytes)) = some (some (.int .u64 0), 1, 8) := by kernel_rfl
theorem Yba.size23 : (Yba.prog.info? 23).map (·.size) = some 1 := by kernel_rfl

/-- 'copy(row, s)', both of n elements: the run, as an equation for the walk. -/
theorem copy_run (w : World) (dT sT ty : TypeId) (hu : Yba.prog.underlying dT = some (.slice 23)) (g n c : Nat) (sp : Option Addr) (f0 f : Nat → Int) (hR : Row w g n f0) (hsrc : Vals w sp n f) (hn : 0 < n) :
    ∃ w', (Builtin.copy_ #[dT, sT] ty #[.slice (some ⟨g, 0, none⟩) n n, .slice sp n c]).run Yba.prog w = .ok (goInt n) w' ∧ Row w' g n f ∧ Touch (fun k => k = g) w w' := by
  obtain ⟨b, of, rfl, _⟩ := hsrc 0 hn
  have hc : ∀ j v, (digs n f)[j]? = some v → w.cell? ((⟨b, of, none⟩ : Addr).add j) = some v := by
    intro j v hv
    have hj : j < n := by
      have := (List.getElem?_eq_some_iff.1 hv).1
      simpa [digs_len] using this
    obtain ⟨b', o', e, hcell⟩ := hsrc j hj
    simp only [Option.some.injEq, Addr.mk.injEq, and_true] at e
    obtain ⟨rfl, rfl⟩ := e
    rw [Addr.add_lit, hcell, ← hv, digs_get n f j hj]
  have hrun := run_copy_row (P := Yba.prog) w dT sT ty 23 g 0 n n ⟨b, of, none⟩ n c (digs n f0).toArray 23 (digs n f) hu Yba.size23 hR (by rw [digs_len]; exact (Nat.min_self n).symm) hc (by simp [digs_len]) (by intro v hv; simp [digs] at hv; obtain ⟨_, _, rfl⟩ := hv; rfl)
  rw [digs_len] at hrun
  refine ⟨_, hrun, ?_, touch_setRow _ w g _ rfl⟩
  unfold Row
  rw [setRow_heap w g _ _ 23 _ hR]
  congr 2
  simp [digs_len]
end Go.Proofs.Ybulkfkm
