import Derived.Test.YbulkfkmRows
import Derived.WalkKit
import Derived.ProofKit
import Derived.OpenShut
import Derived.ChangeOld
import Derived.Below
import Derived.Deep.QuietTactic
import Derived.BigQuiet
import Derived.RegionTactic
import Derived.Deep.RegionWith
namespace Go.Proofs.Ybulkfkm
open Go.RowKit
set_option linter.unusedVariables false

/-- The negative part, in the walk's own form. -/
def neg0 (x : Int) : Int := if 0 < x then 0 else x
/-- The running sum, wrapped at each step. -/
def accTo (a : Int) (f : Nat → Int) : Nat → Int
  | 0 => a
  | k + 1 => wrap64 (accTo a f k + f k)

theorem take_any (bs : Nat) (s n : Int) (w : World) (hc : w.cell? ⟨bs, 0, none⟩ = some (.int .i64 s)) (hf : w.frozen? ⟨bs, 0, none⟩ = false) :
    Calls Yba.prog 14 #[.pointer (some ⟨bs, 0, none⟩), .int .i64 n] w fun e w' => e = .returned (.tuple #[]) ∧ w' = w.setCell ⟨bs, 0, none⟩ (.int .i64 (wrap64 (s + n))) := by
  go_enter Yba.func14, Yba.ntmps14
  go_wp2
  go_end0
  exact ⟨rfl, rfl⟩

set_option maxHeartbeats 1000000 in
theorem bound_any (bc bw bs cl cc ol oc qb nq qc tb nt tc : Nat) (ca oa : Option Addr) (s : Int) (cz oz : Nat → Int) (w : World)
    (h1 : w.cell? ⟨bc, 1, none⟩ = some (.slice ca cl cc)) (h2 : w.cell? ⟨bc, 2, none⟩ = some (.slice oa ol oc)) (h3 : w.cell? ⟨bc, 3, none⟩ = some (.slice (some ⟨qb, 0, none⟩) nq qc))
    (h8 : w.cell? ⟨bw, 8, none⟩ = some (.slice (some ⟨tb, 0, none⟩) nt tc)) (h12 : w.cell? ⟨bw, 12, none⟩ = some (.pointer (some ⟨bs, 0, none⟩)))
    (hs : w.cell? ⟨bs, 0, none⟩ = some (.int .i64 s)) (hf : w.frozen? ⟨bs, 0, none⟩ = false)
    (hq : ∀ k, k < nq → ∃ j : Nat, j < cl ∧ w.cell? ⟨qb, k, none⟩ = some (.int .i32 (j : Int)) ∧ ∃ xb xo, ca = some ⟨xb, xo, none⟩ ∧ w.cell? ⟨xb, xo + j, none⟩ = some (.int .i64 (cz k)))
    (ht : ∀ k, k < nt → ∃ j : Nat, j < ol ∧ w.cell? ⟨tb, k, none⟩ = some (.int .i64 (j : Int)) ∧ ∃ xb xo, oa = some ⟨xb, xo, none⟩ ∧ w.cell? ⟨xb, xo + j, none⟩ = some (.int .i64 (oz k)))
    (bq : nq ≤ 1024) (bt : nt ≤ 1024) (bcl : cl ≤ maxLen) (bol : ol ≤ maxLen) :
    Calls Yba.prog 11 #[.pointer (some ⟨bc, 0, none⟩), .pointer (some ⟨bw, 0, none⟩)] w fun e w' =>
      e = .returned (.int .i64 (accTo (accTo 0 cz nq) (fun k => neg0 (oz k)) nt)) ∧ w' = (w.setCell ⟨bs, 0, none⟩ (.int .i64 (wrap64 (s + (nq + nt))))).drew := by
  unfold maxLen at bcl bol
  go_enter Yba.func11, Yba.ntmps11
  go_wp2
  go_loop [5, 15] (fun b i => ∃ k : Nat, k ≤ nq ∧ i = .int .i64 k ∧ b = .int .i64 (accTo 0 cz k)) (fun _ i => nq - (intOf i).toNat)
  case atStart => exact ⟨0, Nat.zero_le _, rfl, rfl⟩
  case round =>
    obtain ⟨k, hk, rfl, rfl⟩ := hrel
    by_cases hlt : k < nq
    · obtain ⟨j, hj, hqc, xb, xo, rfl, hcc⟩ := hq k hlt
      have hE : Hid (accTo 0 cz (k + 1) = wrap64 (accTo 0 cz k + cz k)) := rfl
      clear hq ht
      go_wp2
      go_round
      case rel => exact ⟨k + 1, by omega, by go_num, by rw [hE.out]⟩
      case measure => simp [intOf]; omega
    · have hkn : k = nq := by omega
      subst hkn
      clear hq hlt
      go_wp2
      go_loop [5, 34] (fun b i => ∃ m : Nat, m ≤ nt ∧ i = .int .i64 m ∧ b = .int .i64 (accTo (accTo 0 cz k) (fun k => neg0 (oz k)) m)) (fun _ i => nt - (intOf i).toNat)
      case atStart => exact ⟨0, Nat.zero_le _, rfl, rfl⟩
      case round =>
        obtain ⟨m, hm, rfl, rfl⟩ := hrel
        by_cases hlt : m < nt
        · obtain ⟨j, hj, hqc, xb, xo, rfl, hcc⟩ := ht m hlt
          have hE : Hid (accTo (accTo 0 cz k) (fun k => neg0 (oz k)) (m + 1) = wrap64 (accTo (accTo 0 cz k) (fun k => neg0 (oz k)) m + neg0 (oz m))) := rfl
          clear ht
          generalize accTo (accTo 0 cz k) (fun k => neg0 (oz k)) m = A at *
          go_wp2
          go_round
          case rel => exact ⟨m + 1, by omega, by go_num, by rw [hE.out]; rfl⟩
          case measure => simp [intOf]; omega
        · have hkn : m = nt := by omega
          subst hkn
          clear ht hlt
          go_wp2_with fail
          go_region_with (go_at_call 14; refine (take_any bs s _ _ (by simpa using hs) (by simpa using hf)).mono ?_; rintro e w' ⟨rfl, rfl⟩)
          all_goals go_wp2
          all_goals go_ret
          all_goals (refine ⟨rfl, ?_⟩; rw [IntWalk.i64_in ((k : Int) + (m : Int)) (by omega)])
end Go.Proofs.Ybulkfkm
