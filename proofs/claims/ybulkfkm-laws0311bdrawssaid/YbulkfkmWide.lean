import Derived.Test.YbulkfkmShelf
import Derived.Test.YbulkfkmRows
import Derived.WalkKit
import Derived.ProofKit
import Derived.OpenShut
import Derived.ChangeOld
import Derived.Below
import Derived.Deep.QuietTactic
import Derived.BigQuiet
import Derived.RegionTactic
import Derived.Deep.RegionWith
import Derived.Deep.DeepCutAuto
import Derived.Laws.CopyOwn
namespace Go.Proofs.Ybulkfkm
open Go.RowKit
set_option linter.unusedVariables false

/-- Nothing in memory has turned (draws alone). -/
structure Same (w w' : World) : Prop where
  heap : w'.heap = w.heap
  os : w'.os = w.os
  tape : w'.tape = w.tape
  output : w'.output = w.output
theorem Same.refl (w : World) : Same w w := ⟨rfl, rfl, rfl, rfl⟩
theorem Same.trans {a b c : World} (h : Same a b) (k : Same b c) : Same a c := ⟨k.heap.trans h.heap, k.os.trans h.os, k.tape.trans h.tape, k.output.trans h.output⟩
theorem Same.drew {a b : World} (h : Same a b) : Same a b.drew := h.trans ⟨rfl, rfl, rfl, rfl⟩
theorem same_drewN (w : World) (n : Nat) : Same w (w.drewN n) := ⟨by simp, rfl, rfl, rfl⟩
theorem Same.drewN {a b : World} (h : Same a b) (n : Nat) : Same a (b.drewN n) := h.trans (same_drewN b n)
theorem same_set (w : World) (n : Nat) (a : Addr) (v : Value) : Same (w.setCell a v) ((w.drewN n).setCell a v) := ⟨by simp [World.setCell], rfl, rfl, rfl⟩
theorem Same.cell {w w' : World} (h : Same w w') (a : Addr) : w'.cell? a = w.cell? a := by simp [World.cell?, h.heap]
theorem Same.frozen {w w' : World} (h : Same w w') (a : Addr) : w'.frozen? a = w.frozen? a := by simp [World.frozen?, h.heap]
theorem Same.below {w w' : World} (h : Same w w') (B : Nat) : Below B w w' := ⟨h.os, h.tape, h.output, by rw [h.heap]; exact Nat.le_refl _, fun k _ => by rw [h.heap]⟩

/-- The numbers that lie in a row. -/
def Num (w : World) (g d : Nat) (f : Nat → Int) : Prop := ∀ i, i < d → w.cell? ⟨g, i, none⟩ = some (.int .u64 (f i))

/-- 'f below g', digit by digit, the last k digits of d. -/
def lexFrom (f g : Nat → Int) (d : Nat) : Nat → Bool
  | 0 => false
  | k + 1 => if f (d - (k + 1)) = g (d - (k + 1)) then lexFrom f g d k else decide (f (d - (k + 1)) < g (d - (k + 1)))

theorem lex_step {f g : Nat → Int} {d k : Nat} (hk : k < d) : lexFrom f g d (d - k) = if f k = g k then lexFrom f g d (d - (k + 1)) else decide (f k < g k) := by
  obtain ⟨m, hm⟩ : ∃ m, d - k = m + 1 := ⟨d - k - 1, by omega⟩
  rw [hm]
  show (if f (d - (m + 1)) = g (d - (m + 1)) then lexFrom f g d m else _) = _
  rw [show d - (m + 1) = k by omega, show d - (k + 1) = m by omega]

set_option maxHeartbeats 1000000 in
theorem less_any (g1 g2 d : Nat) (f1 f2 : Nat → Int) (w : World) (h1 : Num w g1 d f1) (h2 : Num w g2 d f2) (hd : d ≤ 256) :
    Calls Yba.prog 13 #[.slice (some ⟨g1, 0, none⟩) d d, .slice (some ⟨g2, 0, none⟩) d d] w fun e w' => e = .returned (.bool (lexFrom f1 f2 d d)) ∧ Same w w' := by
  go_enter Yba.func13, Yba.ntmps13
  go_wp2
  go_loopw [8] (fun i wr => ∃ k : Nat, k ≤ d ∧ i = .int .i64 k ∧ Same w wr ∧ Hid (lexFrom f1 f2 d d = lexFrom f1 f2 d (d - k))) (fun i _ => d - (intOf i).toNat)
  case atStart => exact ⟨0, Nat.zero_le _, rfl, Same.refl _, rfl⟩
  case round =>
    obtain ⟨k, hk, rfl, hs, hl⟩ := hrel
    by_cases hlt : k < d
    · have c1 : wr.cell? ⟨g1, k, none⟩ = some (.int .u64 (f1 k)) := (hs.cell _).trans (h1 k hlt)
      have c2 : wr.cell? ⟨g2, k, none⟩ = some (.int .u64 (f2 k)) := (hs.cell _).trans (h2 k hlt)
      have hi : (k : Int) < (d : Int) := by omega
      have hst : Hid _ := lex_step (f := f1) (g := f2) hlt
      clear h1 h2
      by_cases he : f1 k = f2 k
      · have hb : (f1 k != f2 k) = false := by simp [he]
        go_wp2
        go_quiet (fail)
        go_wp2
        go_roundw
        case rel => exact ⟨k + 1, by omega, by go_num, hs.drewN _, by have := hl.out; rw [hst.out, if_pos he] at this; exact this⟩
        case measure => simp [intOf]; omega
      · have hb : (f1 k != f2 k) = true := by simp [he]
        go_wp2
        go_quiet (fail)
        go_wp2
        go_quiet (fail)
        go_wp2
        go_ret
        refine ⟨?_, (hs.drewN _).drewN _⟩
        rw [hl.out, hst.out, if_neg he]; rfl
    · have hkd : k = d := by omega
      subst hkd
      go_wp2
      go_ret
      exact ⟨by rw [hl.out, Nat.sub_self]; rfl, hs⟩

set_option maxHeartbeats 1000000 in
theorem below_any (g1 g2 d : Nat) (f1 f2 : Nat → Int) (w : World) (h1 : Num w g1 d f1) (h2 : Num w g2 d f2) (hd : d ≤ 256) :
    Calls Yba.prog 9 #[.slice (some ⟨g1, 0, none⟩) d d, .slice (some ⟨g2, 0, none⟩) d d] w fun e w' => e = .returned (.bool (lexFrom f1 f2 d d)) ∧ Same w w' := by
  go_enter Yba.func9, Yba.ntmps9
  go_wp2
  go_loopw [5] (fun i wr => ∃ k : Nat, k ≤ d ∧ i = .int .i64 k ∧ Same w wr ∧ Hid (lexFrom f1 f2 d d = lexFrom f1 f2 d (d - k))) (fun i _ => d - (intOf i).toNat)
  case atStart => exact ⟨0, Nat.zero_le _, rfl, Same.refl _, rfl⟩
  case round =>
    obtain ⟨k, hk, rfl, hs, hl⟩ := hrel
    by_cases hlt : k < d
    · have c1 : wr.cell? ⟨g1, k, none⟩ = some (.int .u64 (f1 k)) := (hs.cell _).trans (h1 k hlt)
      have c2 : wr.cell? ⟨g2, k, none⟩ = some (.int .u64 (f2 k)) := (hs.cell _).trans (h2 k hlt)
      have hi : (k : Int) < (d : Int) := by omega
      have hst : Hid _ := lex_step (f := f1) (g := f2) hlt
      clear h1 h2
      by_cases ha : f1 k < f2 k
      · go_wp2
        go_quiet (fail)
        go_wp2
        go_ret
        refine ⟨?_, hs.drewN _⟩
        rw [hl.out, hst.out, if_neg (by omega), decide_eq_true ha]; rfl
      · by_cases hb : f2 k < f1 k
        · go_wp2
          go_quiet (fail)
          go_wp2
          go_quiet (fail)
          go_wp2
          go_ret
          refine ⟨?_, (hs.drewN _).drewN _⟩
          rw [hl.out, hst.out, if_neg (by omega), decide_eq_false (by omega)]; rfl
        · go_wp2
          go_quiet (fail)
          go_wp2
          go_quiet (fail)
          go_wp2
          go_roundw
          case rel => exact ⟨k + 1, by omega, by go_num, hs.drewN _, by have := hl.out; rw [hst.out, if_pos (by omega)] at this; exact this⟩
          case measure => simp [intOf]; omega
    · have hkd : k = d := by omega
      subst hkd
      go_wp2
      go_ret
      exact ⟨by rw [hl.out, Nat.sub_self]; rfl, hs⟩

set_option maxHeartbeats 1000000 in
theorem same_any (g1 g2 d : Nat) (f1 f2 : Nat → Int) (w : World) (h1 : Num w g1 d f1) (h2 : Num w g2 d f2) (hd : d ≤ 256) (heq : ∀ i, i < d → f1 i = f2 i) :
    Calls Yba.prog 10 #[.slice (some ⟨g1, 0, none⟩) d d, .slice (some ⟨g2, 0, none⟩) d d] w fun e w' => e = .returned (.bool true) ∧ Same w w' := by
  go_enter Yba.func10, Yba.ntmps10
  go_wp2
  go_loopw [5] (fun i wr => ∃ k : Nat, k ≤ d ∧ i = .int .i64 k ∧ Same w wr) (fun i _ => d - (intOf i).toNat)
  case atStart => exact ⟨0, Nat.zero_le _, rfl, Same.refl _⟩
  case round =>
    obtain ⟨k, hk, rfl, hs⟩ := hrel
    by_cases hlt : k < d
    · have c1 : wr.cell? ⟨g1, k, none⟩ = some (.int .u64 (f1 k)) := (hs.cell _).trans (h1 k hlt)
      have c2 : wr.cell? ⟨g2, k, none⟩ = some (.int .u64 (f1 k)) := (hs.cell _).trans (by rw [h2 k hlt, heq k hlt])
      have hi : (k : Int) < (d : Int) := by omega
      have hb : (f1 k != f1 k) = false := by simp
      clear h1 h2 heq
      go_wp2
      go_quiet (fail)
      go_wp2
      go_roundw
      case rel => exact ⟨k + 1, by omega, by go_num, hs.drewN _⟩
      case measure => simp [intOf]; omega
    · have hkd : k = d := by omega
      subst hkd
      clear h1 h2 heq
      go_wp2
      go_ret
      exact ⟨rfl, hs⟩

/-- The k-th answer of the source: the list's, then noughts. -/
def ansAt (f : Nat → Int) (n k : Nat) : Int := if k < n then f k else 0

/-- A slice that came in, as the walk is told of it. -/
def Vals (w : World) (a : Option Addr) (n : Nat) (f : Nat → Int) : Prop :=
  ∀ i, i < n → ∃ b o, a = some ⟨b, o, none⟩ ∧ w.cell? ⟨b, o + i, none⟩ = some (.int .u64 (f i))

theorem at_any (a : Option Addr) (n c k : Nat) (f : Nat → Int) (w : World) (h : Vals w a n f) (hn : n ≤ 4096) :
    Calls Yba.prog 8 #[.slice a n c, .int .i64 (k : Int)] w fun e w' => e = .returned (.int .u64 (ansAt f n k)) ∧ w' = w := by
  by_cases hk : k < n
  · obtain ⟨b, o, rfl, hc⟩ := h k hk
    have e : ansAt f n k = f k := if_pos hk
    rw [e]
    clear h e
    go_enter Yba.func8, Yba.ntmps8
    go_wp2
    go_ret
    exact ⟨rfl, rfl⟩
  · have e : ansAt f n k = 0 := if_neg hk
    rw [e]
    clear h e
    go_enter Yba.func8, Yba.ntmps8
    go_wp2
    go_ret
    exact ⟨rfl, rfl⟩

set_option maxHeartbeats 1000000 in
theorem uint64_any (a : Option Addr) (n c k gs : Nat) (f : Nat → Int) (w : World) (h : Vals w a n f) (hn : n ≤ 4096) (hk : k ≤ 100000000)
    (h0 : w.cell? ⟨gs, 0, none⟩ = some (.slice a n c)) (h1 : w.cell? ⟨gs, 1, none⟩ = some (.int .i64 (k : Int))) (hf : w.frozen? ⟨gs, 1, none⟩ = false) :
    Calls Yba.prog 31 #[.pointer (some ⟨gs, 0, none⟩)] w fun e w' => e = .returned (.int .u64 (ansAt f n k)) ∧ Same (w.setCell ⟨gs, 1, none⟩ (.int .i64 ((k + 1 : Nat) : Int))) w' := by
  by_cases hkn : k < n
  · obtain ⟨b, o, rfl, hc⟩ := h k hkn
    have e : ansAt f n k = f k := if_pos hkn
    have hi : (k : Int) < (n : Int) := by omega
    rw [e]
    clear h e
    go_enter Yba.func31, Yba.ntmps31
    go_wp2
    go_quiet (fail)
    go_wp2
    go_quiet (fail)
    go_wp2
    go_ret
    exact ⟨rfl, same_set w _ _ _⟩
  · have e : ansAt f n k = 0 := if_neg hkn
    have hi : ¬ (k : Int) < (n : Int) := by omega
    rw [e]
    clear h e
    go_enter Yba.func31, Yba.ntmps31
    go_wp2
    go_quiet (fail)
    go_wp2
    go_ret
    exact ⟨rfl, same_set w _ _ _⟩
end Go.Proofs.Ybulkfkm
