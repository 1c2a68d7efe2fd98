import Derived.Test.YbulkfpwRows
import Derived.WalkKit
import Derived.ProofKit
import Derived.OpenShut
import Derived.ChangeOld
import Derived.Below
import Derived.Deep.QuietTactic
import Derived.BigQuiet
import Derived.RegionTactic
namespace Go.Proofs.Ybulkfpw
open Go.RowKit
set_option linter.unusedVariables false

theorem u64_mod (x : Int) : IntKind.u64.wrap x = x % 18446744073709551616 := by
  simp [IntKind.wrap, IntKind.bits, IntKind.signed]
theorem wrap64_mul (x k : Int) : wrap64 (x + 18446744073709551616 * k) = wrap64 x := by unfold wrap64; omega
theorem wrap64_out (x : Int) : ∃ k, wrap64 x = x + 18446744073709551616 * k := ⟨-((x + 9223372036854775808) / 18446744073709551616), by unfold wrap64; omega⟩
theorem u64_out (x : Int) : ∃ k, IntKind.u64.wrap x = x + 18446744073709551616 * k := ⟨-(x / 18446744073709551616), by rw [u64_mod]; omega⟩

/-- The i-th start, as the walk writes it. -/
def startF (first width i : Int) : Int := wrap64 (first + wrap64 (IntKind.u64.wrap (i * IntKind.u64.wrap width)))

theorem start_eq (first width i : Int) : startF first width i = wrap64 (first + i * width) := by
  unfold startF
  obtain ⟨a, ha⟩ := u64_out width
  obtain ⟨b, hb⟩ := u64_out (i * IntKind.u64.wrap width)
  obtain ⟨c, hc⟩ := wrap64_out (IntKind.u64.wrap (i * IntKind.u64.wrap width))
  have e : first + wrap64 (IntKind.u64.wrap (i * IntKind.u64.wrap width)) = first + i * width + 18446744073709551616 * (i * a + b + c) := by
    rw [hc, hb, ha, Int.mul_add i width, show i * (18446744073709551616 * a) = 18446744073709551616 * (i * a) by rw [← Int.mul_assoc, Int.mul_comm i, Int.mul_assoc]]
    generalize i * width = p
    generalize i * a = q
    omega
  rw [e, wrap64_mul]

theorem start_any (g : Nat) (first width i : Int) (w : World) (h0 : w.cell? ⟨g, 0, none⟩ = some (.int .i64 width)) (h1 : w.cell? ⟨g, 1, none⟩ = some (.int .i64 first)) :
    Calls Yba.prog 9 #[.pointer (some ⟨g, 0, none⟩), .int .u64 i] w fun e w' => e = .returned (.int .i64 (startF first width i)) ∧ ∃ n, w' = w.drewN n := by
  go_enter Yba.func9, Yba.ntmps9
  go_wp2
  go_quiet (fail)
  go_wp2
  go_ret
  exact ⟨rfl, _, rfl⟩

theorem below_drewN' (B : Nat) (w : World) (n : Nat) : Below B w (w.drewN n) := ⟨rfl, rfl, rfl, by simp, fun k _ => by simp⟩

theorem step_plain (first width i : Int) (h : -9223372036854775808 ≤ width ∧ width ≤ 9223372036854775807) : wrap64 (startF first width (IntKind.u64.wrap (i + 1)) - startF first width i) = width := by
  rw [start_eq, start_eq]
  obtain ⟨a, ha⟩ := u64_out (i + 1)
  obtain ⟨b, hb⟩ := wrap64_out (first + i * width)
  obtain ⟨c, hc⟩ := wrap64_out (first + IntKind.u64.wrap (i + 1) * width)
  have e : wrap64 (first + IntKind.u64.wrap (i + 1) * width) - wrap64 (first + i * width) = width + 18446744073709551616 * (a * width + c - b) := by
    rw [hc, hb, ha, Int.add_mul, Int.add_mul, Int.one_mul, Int.mul_assoc]
    generalize i * width = p
    generalize a * width = q
    omega
  rw [e, wrap64_mul, IntWalk.wrap64_in _ h]

theorem zero_plain (first width : Int) (h : -9223372036854775808 ≤ first ∧ first ≤ 9223372036854775807) : startF first width 0 = first := by
  rw [start_eq, Int.zero_mul, Int.add_zero, IntWalk.wrap64_in _ h]

theorem loop_plain (first width : Int) (k : Nat) : wrap64 (wrap64 (first + k * width) + width) = wrap64 (first + ((k + 1 : Nat) : Int) * width) := by
  obtain ⟨a, ha⟩ := wrap64_out (first + k * width)
  have e : wrap64 (first + k * width) + width = first + ((k + 1 : Nat) : Int) * width + 18446744073709551616 * a := by
    rw [ha, show ((k + 1 : Nat) : Int) = (k : Int) + 1 by omega, Int.add_mul, Int.one_mul]
    generalize (k : Int) * width = p
    omega
  rw [e, wrap64_mul]

set_option maxHeartbeats 400000 in
theorem step_walk (first width i : Int) (w : World) (h0 : -9223372036854775808 ≤ first ∧ first ≤ 9223372036854775807) (h1 : -9223372036854775808 ≤ width ∧ width ≤ 9223372036854775807) (h2 : 0 ≤ i ∧ i ≤ 18446744073709551615) :
    Calls Yba.prog 3 #[.int .i64 first, .int .i64 width, .int .u64 i] w fun e w' => e = .returned (.bool true) ∧ Below w.heap.size w w' := by
  have hb1 : (startF first width 0 != first) = false := by rw [zero_plain _ _ h0]; simp
  have hp := step_plain first width i h1
  have c0 : ∀ X Y Z T V U n, ((w.alloc (.cells #[.int .i64 width, .int .i64 first, X, Y, Z, T, V, U] 30)).drewN n).cell? ⟨w.heap.size, 0, none⟩ = some (.int .i64 width) := by intros; simp
  have c1 : ∀ X Y Z T V U n, ((w.alloc (.cells #[.int .i64 width, .int .i64 first, X, Y, Z, T, V, U] 30)).drewN n).cell? ⟨w.heap.size, 1, none⟩ = some (.int .i64 first) := by intros; simp
  go_enter Yba.func3, Yba.ntmps3
  go_wp2_with fail
  refine (start_any w.heap.size first width 0 _ (c0 _ _ _ _ _ _ 0) (c1 _ _ _ _ _ _ 0)).mono ?_
  rintro e w1 ⟨rfl, n1, rfl⟩
  go_wp2_with fail
  refine (start_any w.heap.size first width i _ (c0 _ _ _ _ _ _ n1) (c1 _ _ _ _ _ _ n1)).mono ?_
  rintro e w1 ⟨rfl, n2, rfl⟩
  go_wp2_with fail
  refine (start_any w.heap.size first width (IntKind.u64.wrap (i + 1)) _ (c0 _ _ _ _ _ _ (n1 + n2)) (c1 _ _ _ _ _ _ (n1 + n2))).mono ?_
  rintro e w1 ⟨rfl, n3, rfl⟩
  go_wp2
  go_ret
  exact ⟨rfl, ((Below.refl _ _).alloc (Nat.le_refl _) _).trans (below_drewN' _ _ _)⟩

set_option maxHeartbeats 400000 in
theorem loop_walk (first width x : Int) (w : World) (h0 : -9223372036854775808 ≤ first ∧ first ≤ 9223372036854775807) (h1 : -9223372036854775808 ≤ width ∧ width ≤ 9223372036854775807) (h2 : 0 ≤ x ∧ x ≤ 255) (k : Nat) (hk : x.tmod 64 = (k : Int)) (hk2 : k < 64) :
    Calls Yba.prog 4 #[.int .i64 first, .int .i64 width, .int .u8 x] w fun e w' => e = .returned (.bool true) ∧ Below w.heap.size w w' := by
  have c0 : ∀ X Y Z T V U n, ((w.alloc (.cells #[.int .i64 width, .int .i64 first, X, Y, Z, T, V, U] 30)).drewN n).cell? ⟨w.heap.size, 0, none⟩ = some (.int .i64 width) := by intros; simp
  have c1 : ∀ X Y Z T V U n, ((w.alloc (.cells #[.int .i64 width, .int .i64 first, X, Y, Z, T, V, U] 30)).drewN n).cell? ⟨w.heap.size, 1, none⟩ = some (.int .i64 first) := by intros; simp
  go_enter Yba.func4, Yba.ntmps4
  go_wp2
  go_loop [9, 10] (fun a j => ∃ m : Nat, m ≤ k ∧ j = .int .i64 m ∧ a = .int .i64 (wrap64 (first + m * width))) (fun _ j => k - (intOf j).toNat)
  case atStart => exact ⟨0, Nat.zero_le _, rfl, by rw [Int.natCast_zero, Int.zero_mul, Int.add_zero, IntWalk.wrap64_in _ h0]⟩
  case round =>
    obtain ⟨m, hm, rfl, rfl⟩ := hrel
    by_cases hlt : m < k
    · have hE : Hid _ := loop_plain first width m
      go_wp2
      go_round
      case rel => exact ⟨m + 1, by omega, by go_num, by rw [← hE.out]⟩
      case measure => simp [intOf]; omega
    · have hmk : m = k := by omega
      subst hmk
      have he := start_eq first width m
      go_wp2_with fail
      refine (start_any w.heap.size first width m _ (c0 _ _ _ _ _ _ 0) (c1 _ _ _ _ _ _ 0)).mono ?_
      rintro e w1 ⟨rfl, n1, rfl⟩
      go_wp2
      go_ret
      exact ⟨rfl, ((Below.refl _ _).alloc (Nat.le_refl _) _).trans (below_drewN' _ _ _)⟩
end Go.Proofs.Ybulkfpw
