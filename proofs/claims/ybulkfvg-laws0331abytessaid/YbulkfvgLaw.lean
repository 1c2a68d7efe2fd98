import Derived.Test.YbulkfvgBytes
namespace Go.Proofs.Ybulkfvg
open Go.RowKit
set_option linter.unusedVariables false

theorem Yba.info5 : (Yba.prog.info? 5).map (fun i => (i.zero, i.size, i.bytes)) = some (some (.int .u8 0), 1, 1) := by kernel_rfl
theorem Yba.size5 : (Yba.prog.info? 5).map (·.size) = some 1 := by kernel_rfl

def digs (d : Nat) (f : Nat → Int) : List Value := (List.range d).map fun i => Value.int .u8 (f i)
theorem digs_len (d : Nat) (f : Nat → Int) : (digs d f).length = d := by simp [digs]
theorem digs_get (d : Nat) (f : Nat → Int) (i : Nat) (h : i < d) : (digs d f)[i]? = some (.int .u8 (f i)) := by simp [digs, h]

theorem row_of_made {w : World} {base g n : Nat} (h : w.ownsRow base 5 1 (.slice (some ⟨g, 0, none⟩) n n) n (madeCells (Value.int .u8 0).cells (n * 1)).toList) : ∃ cur : List Value, cur.length = n ∧ w.heap[g]? = some (.cells cur.toArray 5 (0, 0)) := by
  rcases h.2 with ⟨h', _⟩ | ⟨g', cap, cur, h', _, hg, _, _, hcs, htake⟩
  · simp at h'
  · simp only [Value.slice.injEq, Option.some.injEq, Addr.mk.injEq, and_true, true_and] at h'
    obtain ⟨rfl, rfl⟩ := h'
    exact ⟨cur.toList, by simpa using hcs, by simpa using hg⟩

/-- The bytes of a slice that came in. -/
def Rd (w : World) (a : Option Addr) (n : Nat) (f : Nat → Int) : Prop := ∀ i, i < n → ∃ b o, a = some ⟨b, o, none⟩ ∧ b < w.heap.size ∧ w.cell? ⟨b, o + i, none⟩ = some (.int .u8 (f i))
/-- The bytes of the copy. -/
def Cp (w : World) (B L : Nat) (a : Option Addr) (n : Nat) (f : Nat → Int) : Prop := ∀ i, i < n → ∃ g, a = some ⟨g, 0, none⟩ ∧ B ≤ g ∧ g < L ∧ w.cell? ⟨g, i, none⟩ = some (.int .u8 (f i))

theorem rd_pos {w w' : World} {a : Option Addr} {n : Nat} {f : Nat → Int} (h : Rd w a n f) (hb : Below w.heap.size w w') : 0 < (digs n f).length → ∃ ad, a = some ad ∧ ∀ j v, (digs n f)[j]? = some v → w'.cell? (ad.add j) = some v := by
  intro hp
  rw [digs_len] at hp
  obtain ⟨b, o, ha, _, _⟩ := h 0 hp
  refine ⟨_, ha, fun j v hv => ?_⟩
  have hj : j < n := by
    have := (List.getElem?_eq_some_iff.1 hv).1
    simpa [digs_len] using this
  obtain ⟨b', o', e, hlt, hc⟩ := h j hj
  rw [ha] at e
  simp only [Option.some.injEq, Addr.mk.injEq, and_true] at e
  obtain ⟨rfl, rfl⟩ := e
  rw [Addr.add_lit, hb.cell (p := ⟨b, o + j, none⟩) hlt, hc, ← hv, digs_get n f j hj]

theorem cp_of {w : World} {B g n : Nat} {f : Nat → Int} {cur : List Value} (hc : cur.length = n) (h : w.heap[g]? = some (.cells (splice cur 0 (digs n f)).toArray 5 (0, 0))) (hB : B ≤ g) : Cp w B w.heap.size (some ⟨g, 0, none⟩) n f := by
  intro i hi
  refine ⟨g, rfl, hB, (Array.getElem?_eq_some_iff.1 h).1, ?_⟩
  rw [cell_of_row w g i _ 5 (0, 0) h]
  have e : splice cur 0 (digs n f) = digs n f := by simp [splice, digs_len, ← hc]
  rw [e]
  simpa using digs_get n f i hi

theorem Cp.below {w w' : World} {B L : Nat} {a : Option Addr} {n : Nat} {f : Nat → Int} (h : Cp w B L a n f) (hb : Below L w w') : Cp w' B L a n f := by
  intro i hi
  obtain ⟨g, ha, h1, h2, hc⟩ := h i hi
  exact ⟨g, ha, h1, h2, (hb.cell (p := ⟨g, i, none⟩) h2).trans hc⟩

/-- 'copy(row, s)', both of n elements, n whatever: the run, as an equation for the walk. -/
theorem copy_run (w : World) (g n c : Nat) (x : Addr) (f : Nat → Int) (cur : List Value) (hc : cur.length = n) (hg : w.heap[g]? = some (.cells cur.toArray 5 (0, 0)))
    (hsrc : 0 < (digs n f).length → ∃ ad, some x = some ad ∧ ∀ j v, (digs n f)[j]? = some v → w.cell? (ad.add j) = some v) (B : Nat) (w0 : World) (hb : Below B w0 w) (hB : B ≤ g) :
    ∃ w', (Builtin.copy_ #[22, 22] 3 #[.slice (some ⟨g, 0, none⟩) n n, .slice (some x) n c]).run Yba.prog w = .ok (goInt n) w' ∧ w'.heap[g]? = some (.cells (splice cur 0 (digs n f)).toArray 5 (0, 0)) ∧ Below B w0 w' := by
  by_cases h0 : n = 0
  · subst h0
    refine ⟨w, run_copy_none (P := Yba.prog) w 22 22 3 5 _ _ 0 0 0 c Yba.underlying22 Yba.size5 rfl, ?_, hb⟩
    rw [hg, show digs 0 f = [] from rfl]
    simp [splice]
  · obtain ⟨ad, e, hs⟩ := hsrc (by rw [digs_len]; omega)
    simp only [Option.some.injEq] at e
    subst e
    have hrun := run_copy_row (P := Yba.prog) w 22 22 3 5 g 0 n n x n c cur.toArray 5 (digs n f) Yba.underlying22 Yba.size5 hg (by rw [digs_len]; exact (Nat.min_self n).symm) hs (by simp [digs_len, hc]) (by intro v hv; simp [digs] at hv; obtain ⟨_, _, rfl⟩ := hv; rfl)
    rw [digs_len] at hrun
    refine ⟨_, hrun, ?_, below_setRow hb hB _⟩
    rw [setRow_heap w g _ _ 5 _ hg]
    simp [splice, digs_len]

set_option maxHeartbeats 2000000 in
set_option maxRecDepth 100000 in
theorem bytes_core (a0 : Option Addr) (len cap : Nat) (f : Nat → Int) (a1 : Int) (m off : Nat) (s : Bool) (w : World) (hz : a0 = none → len = 0) (hr : Rd w a0 len f) (hl : len ≤ 4096) (h1 : 0 ≤ a1 ∧ a1 ≤ 18446744073709551615) (hoff : a1.tmod ((len : Int) + 1) = (off : Int)) (ho : off ≤ len) (hm : m ≤ 4294967295) :
    Calls Yba.prog 3 #[.slice a0 len cap, .int .u64 a1, .int .u32 (m : Int), .bool s] w fun e w' => e = .returned (.bool true) ∧ Below w.heap.size w w' := by
  obtain ⟨i5, hi, hz0, hz1, hz2⟩ := info_parts Yba.info5
  have hnq := fun W => run_neq_slice_nil_any (P := Yba.prog) W 22 5 a0 len cap 0 0 Yba.underlying22
  have HR := hid hr
  clear hr
  go_enter Yba.func3, Yba.ntmps3
  go_upto_if 20 with fail
  go_cut [9] from 16 (fun v wx => ∃ ao : Option Addr, v = .slice ao len len ∧ Hid ((ao = none ∧ len = 0) ∨ ∃ g, ao = some ⟨g, 0, none⟩) ∧ Hid (Cp wx w.heap.size wx.heap.size ao len f) ∧ Below w.heap.size w wx)
  case first =>
    cases ha : a0 with
    | none =>
      have hl0 := hz ha
      subst ha
      subst hl0
      go_wp2_with fail
      go_meet
      case rel => exact ⟨none, rfl, .inl (by simp), fun i hi => absurd hi (Nat.not_lt_zero _), Below.refl _ _⟩
    | some x =>
      subst ha
      clear hnq hz
      go_wp2_with (first
        | (at_make; refine wpList_make_full _ rfl (.tmp 22) (.tmp 22) 22 rfl w.heap.size 5 i5 (.int .u8 0) 1 Yba.underlying22 hi hz0 hz1 _ _ _ _ len rfl rfl rfl rfl (by rw [hz2]; omega) (by unfold maxLen; omega) (by simp) ?_; intro wa hown hgrow; obtain ⟨cur, hcl, hcur⟩ := row_of_made hown; have bB : Below w.heap.size w wa := (Below.refl _ _).grown hgrow (Nat.le_refl _) (by simp); obtain ⟨w2, hcp, hg2, hb2⟩ := copy_run wa w.heap.size len cap x f cur hcl hcur (rd_pos HR.out bB) w.heap.size w bB (Nat.le_refl _)))
      go_meet
      case rel => exact ⟨some ⟨w.heap.size, 0, none⟩, rfl, .inr ⟨_, rfl⟩, cp_of hcl hg2 (Nat.le_refl _), hb2⟩
  case rest =>
    obtain ⟨ao, rfl, hao, hcp, hB⟩ := hcut
    clear hnq HR hz hz0 hz1 hz2 hi
    have hsz := hB.size
    have hD : Dec (wc.alloc (.cells #[.slice ao len len, .int .i64 (off : Int), .bool s] 27)) wc.heap.size (.slice ao len len) off s := heap_alloc_new wc _
    have bA : Below wc.heap.size wc (wc.alloc (.cells #[.slice ao len len, .int .i64 (off : Int), .bool s] 27)) := (Below.refl _ _).alloc (Nat.le_refl _) _
    by_cases hsh : (len : Int) - off < (m : Int)
    · have hC := hid (bytes_short wc.heap.size len len off ao m s _ hD hl ho hsh (by omega))
      have heq : ∀ W, (binOp .eql 22 (.slice none 0 0) (.slice none 0 0)).run Yba.prog W = .ok (.bool true) W := fun W => Lib.run_eql_slice_nil (P := Yba.prog) W 22 5 none 0 0 0 0 Yba.underlying22
      clear hD
      go_wp2_with fail
      refine hC.out.mono ?_
      rintro e w1 ⟨rfl, hD1, hg1⟩
      have b1 : Below wc.heap.size wc w1 := bA.grown hg1 (by simp) (by simp)
      have HB := hid (hB.trans (b1.mono hsz))
      have c0 := hD1.c0
      have c1 := hD1.c1
      have c2 := hD1.c2
      clear hD1 hg1 b1 bA hC hB hcp hao hoff
      go_wp2
      go_ret
      exact ⟨rfl, HB.out⟩
    · have hC := hid (bytes_ok wc.heap.size len off m ao s _ hao.out hD hl (by omega))
      have hsb : decide ((len : Int) - (off : Int) < (m : Int)) = false := decide_eq_false hsh
      have hm2 : off + m ≤ len := by omega
      clear hD hsh
      go_wp2_with fail
      refine hC.out.mono ?_
      rintro e w1 ⟨ga, gc, rfl, hga, hD1, hg1⟩
      have b1 : Below wc.heap.size wc w1 := bA.grown hg1 (by simp) (by simp)
      have HB := hid (hB.trans (b1.mono hsz))
      have hcp1 := hid (hcp.out.below b1)
      have c0 := hD1.c0
      have c1 := hD1.c1
      have c2 := hD1.c2
      clear hD1 hg1 b1 bA hC hB hcp hao hoff
      go_wp2
      clear c0 c1 c2
      go_loopw [15] (fun i wr => ∃ k nq : Nat, k ≤ m ∧ i = .int .i64 k ∧ wr = w1.drewN nq) (fun i _ => m - (intOf i).toNat)
      case atStart => exact ⟨0, 0, Nat.zero_le _, rfl, rfl⟩
      case round =>
        obtain ⟨k, nq, hk, rfl, rfl⟩ := hrel
        by_cases hlt : k < m
        · obtain ⟨g, rfl, rfl⟩ := hga.out (by omega)
          obtain ⟨g', e, _, _, hc⟩ := hcp1.out (off + k) (by omega)
          simp only [Option.some.injEq, Addr.mk.injEq, and_true] at e
          subst e
          have hi1 : (k : Int) < (m : Int) := by omega
          have hi2 : (off : Int) + (k : Int) < (len : Int) := by omega
          have hb : (f (off + k) != f (off + k)) = false := by simp
          clear hga hcp1
          go_wp2
          go_quiet (fail)
          go_wp2
          go_roundw
          case rel => exact ⟨k + 1, _, by omega, by go_num, rfl⟩
          case measure => simp [intOf]; omega
        · clear hga hcp1
          go_wp2
          go_ret
          exact ⟨rfl, HB.out.trans ⟨rfl, rfl, rfl, by simp, fun k _ => by simp⟩⟩
end Go.Proofs.Ybulkfvg
