import Derived.Test.YbulkfpwCoder
import Derived.Test.YbulkfpwShelf
import Derived.Deep.DeepCutAuto
namespace Go.Proofs.Ybulkfpw
open Go.RowKit
set_option linter.unusedVariables false

/-- How many bytes the varint of x takes. -/
def vl (x : Int) : Nat := (Lib.uvarint (Lib.zigzag x)).length
theorem wrap64_range (x : Int) : -9223372036854775808 ≤ wrap64 x ∧ wrap64 x ≤ 9223372036854775807 := by unfold wrap64; omega
theorem vl_pos (x : Int) : 1 ≤ vl x := Lib.uvarint_pos _
theorem vl_le (x : Int) (h0 : -9223372036854775808 ≤ x) (h1 : x ≤ 9223372036854775807) : vl x ≤ 10 := by
  refine Lib.uvarint_length64 ?_
  unfold Lib.zigzag
  split <;> omega

theorem own_shape {w : World} {B : Nat} {e : TypeId} {size : Nat} {v : Value} {n : Nat} {xs : List Value} (h : w.ownsRow B e size v n xs) (hn : 0 < n) : ∃ g cap, v = .slice (some ⟨g, 0, none⟩) n cap := by
  rcases h.2 with ⟨_, h0⟩ | ⟨g, cap, cur, hv, _⟩
  · omega
  · exact ⟨g, cap, hv⟩

theorem Coder.below {B : Nat} {w w' : World} {g : Nat} {p s : Int} {b : Bool} (h : Coder w g p s b) (hb : Below B w w') (hg : g < B) : Coder w' g p s b := (hb.block g hg).trans h

/-- The step that append reckons. -/
def stepOf (t p : Int) : Int := IntKind.u64.wrap (IntKind.u64.wrap t - IntKind.u64.wrap p)

def keptIf (b : Bool) (x : Int) : Int := if b = true then x else 0
/-- What append leaves. -/
def Appended (g B m : Nat) (t st : Int) (w w' : World) (v' : Value) : Prop := (∃ xs', w'.ownsRow B 5 1 v' m xs') ∧ Coder w' g t st true ∧ Below g w w' ∧ w.heap.size ≤ w'.heap.size

theorem append_any (g B n : Nat) (p s t : Int) (b : Bool) (sv : Value) (xs : List Value) (w : World) (hC : Coder w g p s b) (hown : w.ownsRow B 5 1 sv n xs) (hg : g < B) (hB : B ≤ w.heap.size) (hn : n ≤ 1000) :
    Calls Yba.prog 11 #[.pointer (some ⟨g, 0, none⟩), sv, .int .i64 t] w fun e w' => ∃ v', e = .returned v' ∧ Appended g B (n + vl (wrap64 (IntKind.u64.wrap (stepOf t p - s)))) t (keptIf b (stepOf t p)) w w' v' := by
  have c0 := hC.c0
  have c1 := hC.c1
  have hr := wrap64_range (IntKind.u64.wrap (stepOf t p - s))
  have hA := Yba.binary_AppendVarint B n (wrap64 (IntKind.u64.wrap (stepOf t p - s))) hr.1 hr.2 sv xs w hown hB (by omega)
  unfold stepOf at hA hr
  go_enter Yba.func11, Yba.ntmps11
  go_wp2_with fail
  refine hA.mono ?_
  rintro e w1 ⟨v', rfl, hown1, hb1⟩
  have hC1 := hC.below hb1 hg
  have hsz := hb1.size
  have hF := after_any g p s t (IntKind.u64.wrap (IntKind.u64.wrap t - IntKind.u64.wrap p)) b w1 hC1
  clear hA c0 c1 hr hC hown
  go_wp2_with fail
  refine hF.mono ?_
  rintro e w2 ⟨rfl, hC2, hg2⟩
  have hown2 := hown1.kept hg2 (by
    cases hv : v'.ownBlock with
    | none => exact .inl rfl
    | some k => refine .inr ?_; have := (hown1.lt k hv).1; simp; omega)
  have hb2 : Below g w w2 := (hb1.mono (by omega)).grown hg2 (by omega) (by simp)
  have hsz2 := hg2.size
  have hfin : Appended g B (n + vl (wrap64 (IntKind.u64.wrap (stepOf t p - s)))) t (keptIf b (stepOf t p)) w w2 v' := ⟨⟨_, hown2⟩, hC2, hb2, by omega⟩
  clear hC2 hown2 hown1 hC1 hF hg2 hb1 hb2
  go_wp2
  go_ret
  exact ⟨v', rfl, hfin⟩

theorem u64_mod (x : Int) : IntKind.u64.wrap x = x % 18446744073709551616 := by
  simp [IntKind.wrap, IntKind.bits, IntKind.signed]

/-- The state ahead of round k. -/
def St (start d : Int) (k : Nat) (t P S : Int) (b : Bool) (n : Nat) : Prop :=
  t = IntKind.u64.wrap (start + k * d) ∧
  ((k = 0 ∧ P = 0 ∧ S = 0 ∧ b = false ∧ n = 0) ∨ (k = 1 ∧ P = start ∧ S = 0 ∧ b = true ∧ n = vl start) ∨
   (2 ≤ k ∧ P = wrap64 (start + (k - 1) * d) ∧ S = d ∧ b = true ∧ n = vl start + vl (wrap64 d) + (k - 2)))

theorem vl_zero : vl 0 = 1 := by unfold vl Lib.zigzag; rw [Lib.uvarint_small (by decide)]; rfl

theorem St.step {start d : Int} {k : Nat} {t P S : Int} {b : Bool} {n : Nat} (hs : -9223372036854775808 ≤ start ∧ start ≤ 9223372036854775807) (hd : 0 ≤ d ∧ d ≤ 18446744073709551615) (h : St start d k t P S b n) :
    St start d (k + 1) (IntKind.u64.wrap (t + d)) (wrap64 t) (keptIf b (stepOf (wrap64 t) P)) true (n + vl (wrap64 (IntKind.u64.wrap (stepOf (wrap64 t) P - S)))) := by
  obtain ⟨ht, h⟩ := h
  have ht1 : IntKind.u64.wrap (t + d) = IntKind.u64.wrap (start + ((k + 1 : Nat) : Int) * d) := by
    rw [ht, show ((k + 1 : Nat) : Int) = (k : Int) + 1 by omega, Int.add_mul, Int.one_mul]
    simp only [u64_mod]
    generalize (k : Int) * d = kd
    omega
  refine ⟨ht1, ?_⟩
  rcases h with ⟨rfl, rfl, rfl, rfl, rfl⟩ | ⟨rfl, rfl, rfl, rfl, rfl⟩ | ⟨hk, rfl, rfl, rfl, rfl⟩
  · have e1 : wrap64 t = start := by
      rw [ht]; simp only [u64_mod, Int.natCast_zero, Int.zero_mul, Int.add_zero]; unfold wrap64; omega
    have e2 : wrap64 (IntKind.u64.wrap (stepOf (wrap64 t) 0 - 0)) = start := by
      rw [e1]; unfold stepOf; simp only [u64_mod]; unfold wrap64; omega
    exact .inr (.inl ⟨rfl, e1, rfl, rfl, by rw [e2]; omega⟩)
  · have e1 : wrap64 t = wrap64 (P + d) := by
      rw [ht, show ((1 : Nat) : Int) = 1 from rfl]; simp only [u64_mod, Int.one_mul]; unfold wrap64; omega
    have e2 : stepOf (wrap64 t) P = d := by
      rw [e1]; unfold stepOf; simp only [u64_mod]; unfold wrap64; omega
    have e3 : IntKind.u64.wrap (d - 0) = d := by rw [u64_mod]; omega
    refine .inr (.inr ⟨by omega, ?_, e2, rfl, ?_⟩)
    · rw [e1]; congr 2; omega
    · rw [e2, e3]; omega
  · have e1 : wrap64 t = wrap64 (start + k * S) := by
      rw [ht]; simp only [u64_mod]; generalize (k : Int) * S = kd; unfold wrap64; omega
    have e2 : stepOf (wrap64 t) (wrap64 (start + (k - 1) * S)) = S := by
      rw [e1]; unfold stepOf; simp only [u64_mod]; rw [Int.sub_mul, Int.one_mul]; generalize (k : Int) * S = kd; unfold wrap64; omega
    have e3 : wrap64 (IntKind.u64.wrap (S - S)) = 0 := by rw [u64_mod]; unfold wrap64; omega
    refine .inr (.inr ⟨by omega, ?_, e2, rfl, ?_⟩)
    · rw [e1]; congr 2; congr 1; omega
    · rw [e2, e3, vl_zero]; omega

theorem St.le {start d : Int} {k : Nat} {t P S : Int} {b : Bool} {n : Nat} (hs : -9223372036854775808 ≤ start ∧ start ≤ 9223372036854775807) (h : St start d k t P S b n) : n ≤ 20 + k := by
  have h1 := vl_le start hs.1 hs.2
  have h2 := vl_le (wrap64 d) (wrap64_range d).1 (wrap64_range d).2
  rcases h.2 with ⟨_, _, _, _, e⟩ | ⟨_, _, _, _, e⟩ | ⟨_, _, _, _, e⟩ <;> omega

theorem hid {p : Prop} (h : p) : Hid p := h

theorem av_nil (B : Nat) (x : Int) (w : World) (h0 : -9223372036854775808 ≤ x) (h1 : x ≤ 9223372036854775807) (hB : B ≤ w.heap.size) :
    Calls Yba.prog 13 #[.slice none 0 0, .int .i64 x] w fun e w' => ∃ g cap, e = .returned (.slice (some ⟨g, 0, none⟩) (vl x) cap) ∧ Below B w w' := by
  refine (Yba.binary_AppendVarint B 0 x h0 h1 (.slice none 0 0) [] w (World.ownsRow_nil _ _ _ _) hB (by omega)).mono ?_
  rintro e w' ⟨v, rfl, hown, hb⟩
  rw [Nat.zero_add] at hown
  obtain ⟨g, cap, hv⟩ := own_shape hown (vl_pos x)
  exact ⟨g, cap, by rw [hv]; rfl, hb⟩

set_option maxHeartbeats 1000000 in
set_option maxRecDepth 100000 in
theorem steady_walk (start d x : Int) (w : World) (hs : -9223372036854775808 ≤ start ∧ start ≤ 9223372036854775807) (hd : 0 ≤ d ∧ d ≤ 18446744073709551615) (h2 : 0 ≤ x ∧ x ≤ 255) (q : Nat) (hq : x.tmod 40 = (q : Int)) (hq2 : q < 40) :
    Calls Yba.prog 8 #[.int .i64 start, .int .u64 d, .int .u8 x] w fun e w' => e = .returned (.bool true) ∧ Below w.heap.size w w' := by
  have hC : Coder (w.alloc (.cells #[.int .i64 0, .int .u64 0, .bool false] 36)) w.heap.size 0 0 false := heap_alloc_new w _
  have hB : Below w.heap.size w (w.alloc (.cells #[.int .i64 0, .int .u64 0, .bool false] 36)) := (Below.refl _ _).alloc (Nat.le_refl _) _
  have hS0 : St start d 0 (IntKind.u64.wrap start) 0 0 false 0 := ⟨by rw [Int.natCast_zero, Int.zero_mul, Int.add_zero], .inl ⟨rfl, rfl, rfl, rfl, rfl⟩⟩
  go_enter Yba.func8, Yba.ntmps8
  go_wp2
  go_loopw [9, 10, 11] (fun v t i wr => ∃ (k n : Nat) (T P S : Int) (b : Bool) (xs : List Value), k ≤ 2 + q ∧ i = .int .i64 k ∧ t = .int .u64 T ∧ St start d k T P S b n ∧ wr.ownsRow (w.heap.size + 1) 5 1 v n xs ∧ Coder wr w.heap.size P S b ∧ w.heap.size + 1 ≤ wr.heap.size ∧ Below w.heap.size w wr) (fun _ _ i _ => 2 + q - (intOf i).toNat)
  case atStart => exact ⟨0, 0, _, 0, 0, false, [], by omega, rfl, rfl, hS0, World.ownsRow_nil _ _ _ _, hC, by simp, hB⟩
  case round =>
    clear hC hB hS0
    obtain ⟨k, n, T, P, S, b, xs, hk, rfl, rfl, hSt, hown, hC, hsz, hB⟩ := hrel
    have hle := hSt.le hs
    by_cases hlt : k < 2 + q
    · have hA := append_any w.heap.size (w.heap.size + 1) n P S (wrap64 T) b u9 xs wr hC hown (by omega) hsz (by omega)
      have hN := hid (hSt.step hs hd)
      clear hSt hown hC
      go_wp2_with (go_at_call 11; refine hA.mono ?_; rintro e w1 ⟨v1, rfl, hA1⟩)
      obtain ⟨⟨xs', o1⟩, c1, b1, z1⟩ := hA1
      go_roundw
      case rel => exact ⟨k + 1, _, _, _, _, true, xs', by omega, by go_num, rfl, hN.out, o1, c1, by omega, hB.trans b1⟩
      case measure => simp [intOf]; omega
    · have hlast : S = d ∧ b = true ∧ n = vl start + vl (wrap64 d) + q := by
        rcases hSt.2 with ⟨e, _⟩ | ⟨e, _⟩ | ⟨_, _, e1, e2, e3⟩
        · omega
        · omega
        · exact ⟨e1, e2, by omega⟩
      obtain ⟨rfl, rfl, rfl⟩ := hlast
      have p1 := vl_pos start
      have p2 := vl_pos (wrap64 S)
      have q1 := vl_le start hs.1 hs.2
      have q2 := vl_le (wrap64 S) (wrap64_range S).1 (wrap64_range S).2
      have hv1 := fun W hW => av_nil (w.heap.size + 1) start W hs.1 hs.2 hW
      have hv2 := fun W hW => av_nil (w.heap.size + 1) (wrap64 S) W (wrap64_range S).1 (wrap64_range S).2 hW
      obtain ⟨gg, cp, hv⟩ := own_shape hown (by omega)
      subst hv
      clear hSt hown
      generalize vl start = A at *
      generalize vl (wrap64 S) = D at *
      go_wp2_with fail
      refine (hv1 wr hsz).mono ?_
      rintro e w1 ⟨g1, cap1, rfl, hb1⟩
      have hz1 := hb1.size
      go_wp2_with fail
      refine (hv2 w1 (by omega)).mono ?_
      rintro e w2 ⟨g2, cap2, rfl, hb2⟩
      have hC2 := (hC.below hb1 (by omega)).below hb2 (by omega)
      have c1 := hC2.c1
      have c2 := hC2.c2
      have HB := hid ((hB.trans (hb1.mono (by omega))).trans (hb2.mono (by omega)))
      clear hC hC2 hb1 hb2 hB hv1 hv2 hle
      go_upto_region 11 with fail
      rw [show (A : Int) + (D : Int) + (2 + (q : Int) - 2) = ((A + D + q : Nat) : Int) by omega]
      generalize A + D + q = m
      go_wp2
      go_ret
      exact ⟨rfl, HB.out⟩
end Go.Proofs.Ybulkfpw
