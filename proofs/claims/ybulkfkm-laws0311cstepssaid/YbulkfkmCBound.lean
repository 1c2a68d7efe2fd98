import Derived.Test.YbulkfkmBound
import Derived.Deep.DeepCutAuto
namespace Go.Proofs.Ybulkfkm
open Go.RowKit
set_option linter.unusedVariables false

theorem Yba.info21 : (Yba.prog.info? 21).map (fun i => (i.zero, i.size, i.bytes)) = some (some (.int .i32 0), 1, 4) := by kernel_rfl
theorem Yba.info3 : (Yba.prog.info? 3).map (fun i => (i.zero, i.size, i.bytes)) = some (some (.int .i64 0), 1, 8) := by kernel_rfl

/-- The bound, with its world said by what it is good for. -/
theorem bound_own (bc bw bs cl cc ol oc qb nq qc tb nt tc : Nat) (ca oa : Option Addr) (s : Int) (cz oz : Nat → Int) (w : World)
    (h1 : w.cell? ⟨bc, 1, none⟩ = some (.slice ca cl cc)) (h2 : w.cell? ⟨bc, 2, none⟩ = some (.slice oa ol oc)) (h3 : w.cell? ⟨bc, 3, none⟩ = some (.slice (some ⟨qb, 0, none⟩) nq qc))
    (h8 : w.cell? ⟨bw, 8, none⟩ = some (.slice (some ⟨tb, 0, none⟩) nt tc)) (h12 : w.cell? ⟨bw, 12, none⟩ = some (.pointer (some ⟨bs, 0, none⟩)))
    (hs : w.cell? ⟨bs, 0, none⟩ = some (.int .i64 s)) (hf : w.frozen? ⟨bs, 0, none⟩ = false)
    (hq : ∀ k, k < nq → ∃ j : Nat, j < cl ∧ w.cell? ⟨qb, k, none⟩ = some (.int .i32 (j : Int)) ∧ ∃ xb xo, ca = some ⟨xb, xo, none⟩ ∧ w.cell? ⟨xb, xo + j, none⟩ = some (.int .i64 (cz k)))
    (ht : ∀ k, k < nt → ∃ j : Nat, j < ol ∧ w.cell? ⟨tb, k, none⟩ = some (.int .i64 (j : Int)) ∧ ∃ xb xo, oa = some ⟨xb, xo, none⟩ ∧ w.cell? ⟨xb, xo + j, none⟩ = some (.int .i64 (oz k)))
    (bq : nq ≤ 1024) (bt : nt ≤ 1024) (bcl : cl ≤ maxLen) (bol : ol ≤ maxLen) :
    Calls Yba.prog 11 #[.pointer (some ⟨bc, 0, none⟩), .pointer (some ⟨bw, 0, none⟩)] w fun e w' =>
      e = .returned (.int .i64 (accTo (accTo 0 cz nq) (fun k => neg0 (oz k)) nt)) ∧ w'.cell? ⟨bs, 0, none⟩ = some (.int .i64 (wrap64 (s + (nq + nt)))) ∧ w.grownBy w' (some bs) := by
  refine (bound_any bc bw bs cl cc ol oc qb nq qc tb nt tc ca oa s cz oz w h1 h2 h3 h8 h12 hs hf hq ht bq bt bcl bol).mono ?_
  rintro e w' ⟨rfl, rfl⟩
  refine ⟨rfl, ?_, rfl, rfl, rfl, by simp [World.setCell], fun k hk hne => ?_⟩
  · show (w.setCell ⟨bs, 0, none⟩ _).cell? ⟨bs, 0, none⟩ = _
    exact World.cell?_setCell_same _ _ _ hs
  · exact Below.heap_setCell _ _ _ _ (fun e => hne (by rw [e]))

/-- What the walk is told of a slice that came in. -/
def Rd (k : IntKind) (w : World) (a : Option Addr) (n : Nat) (f : Nat → Int) : Prop :=
  0 < n → ∃ b o, a = some ⟨b, o, none⟩ ∧ b < w.heap.size ∧ ∀ i, i < n → w.cell? ⟨b, o + i, none⟩ = some (.int k (f i))

def qs (k : IntKind) (f : Nat → Int) (n : Nat) : List Value := (List.range n).map fun i => Value.int k (f i)
theorem qs_len (k : IntKind) (f : Nat → Int) (n : Nat) : (qs k f n).length = n := by simp [qs]
theorem qs_succ (k : IntKind) (f : Nat → Int) (n : Nat) : qs k f (n + 1) = qs k f n ++ [.int k (f n)] := by simp [qs, List.range_succ]
theorem qs_get (k : IntKind) (f : Nat → Int) (n i : Nat) (h : i < n) : (qs k f n)[i]? = some (.int k (f i)) := by simp [qs, h]

theorem emod_le_self (x : Int) (n : Nat) (h : 0 ≤ x) : x % (n : Int) ≤ x := by
  obtain ⟨a, rfl⟩ := Int.eq_ofNat_of_zero_le h
  have := Nat.mod_le a n
  rw [← Int.natCast_emod]; omega

theorem one_new (W : World) (v : Value) (t : TypeId) : ∀ (j : Nat) (u : Value), [v][j]? = some u → (W.alloc (.cells #[v] t)).cell? ((⟨W.heap.size, 0, none⟩ : Addr).add j) = some u := by
  intro j u hj
  match j, hj with
  | 0, hj => simp at hj; subst hj; simp [Addr.add]

/-- Row 'b' holds indexes into the slice at 'a', whose elements there are 'z'; all of it lies below block L. -/
def Pick (L : Nat) (w : World) (k : IntKind) (b n : Nat) (a : Option Addr) (len : Nat) (z : Nat → Int) : Prop :=
  ∀ i, i < n → b < L ∧ ∃ j : Nat, j < len ∧ w.cell? ⟨b, i, none⟩ = some (.int k (j : Int)) ∧ ∃ xb xo, a = some ⟨xb, xo, none⟩ ∧ xb < L ∧ w.cell? ⟨xb, xo + j, none⟩ = some (.int .i64 (z i))

theorem Pick.below {L : Nat} {w w' : World} {k : IntKind} {b n : Nat} {a : Option Addr} {len : Nat} {z : Nat → Int} (h : Pick L w k b n a len z) (hb : Below L w w') : Pick L w' k b n a len z := by
  intro i hi
  obtain ⟨hl, j, hj, hc, xb, xo, ha, hx, hv⟩ := h i hi
  exact ⟨hl, j, hj, (hb.cell (p := ⟨b, i, none⟩) hl).trans hc, xb, xo, ha, hx, (hb.cell (p := ⟨xb, xo + j, none⟩) hx).trans hv⟩

theorem Pick.out {L : Nat} {w : World} {k : IntKind} {b n : Nat} {a : Option Addr} {len : Nat} {z : Nat → Int} (h : Pick L w k b n a len z) :
    ∀ i, i < n → ∃ j : Nat, j < len ∧ w.cell? ⟨b, i, none⟩ = some (.int k (j : Int)) ∧ ∃ xb xo, a = some ⟨xb, xo, none⟩ ∧ w.cell? ⟨xb, xo + j, none⟩ = some (.int .i64 (z i)) := by
  intro i hi
  obtain ⟨hl, j, hj, hc, xb, xo, ha, hx, hv⟩ := h i hi
  exact ⟨j, hj, hc, xb, xo, ha, hv⟩

theorem pick_of {w wc : World} {k : IntKind} {e : TypeId} {b n c : Nat} {a : Option Addr} {len : Nat} {f g : Nat → Int} (hown : wc.ownsRow w.heap.size e 1 (.slice (some ⟨b, 0, none⟩) n c) n (qs k (fun i => g i % len) n))
    (hbel : Below w.heap.size w wc) (hr : Rd .i64 w a len f) (hn : n = 0 ∨ 0 < len) : Pick wc.heap.size wc k b n a len (fun i => f (g i % len).toNat) := by
  intro i hi
  have hlen : 0 < len := by omega
  obtain ⟨xb, xo, ha, hx, hc⟩ := hr hlen
  have h0 := Int.emod_nonneg (g i) (show (len : Int) ≠ 0 by omega)
  have h1 := Int.emod_lt_of_pos (g i) (show (0 : Int) < len by omega)
  refine ⟨(hown.lt b rfl).2, (g i % len).toNat, by omega, ?_, xb, xo, ha, by have := hbel.size; omega, ?_⟩
  · rw [hown.cellAt i (by omega), qs_get _ _ _ _ hi, Int.toNat_of_nonneg h0]
  · exact (hbel.cell (p := ⟨xb, xo + (g i % len).toNat, none⟩) hx).trans (hc _ (by omega))

theorem three (W : World) (A B C : Array Value) (ta tb tc : TypeId) :
    (∀ i, (((W.alloc (.cells A ta)).alloc (.cells B tb)).alloc (.cells C tc)).cell? ⟨W.heap.size, i, none⟩ = A[i]?) ∧ (∀ i, (((W.alloc (.cells A ta)).alloc (.cells B tb)).alloc (.cells C tc)).cell? ⟨W.heap.size + 1, i, none⟩ = B[i]?) ∧
    (∀ i, (((W.alloc (.cells A ta)).alloc (.cells B tb)).alloc (.cells C tc)).cell? ⟨W.heap.size + 1 + 1, i, none⟩ = C[i]?) ∧ (((W.alloc (.cells A ta)).alloc (.cells B tb)).alloc (.cells C tc)).frozen? ⟨W.heap.size + 1, 0, none⟩ = false ∧
    Below W.heap.size W (((W.alloc (.cells A ta)).alloc (.cells B tb)).alloc (.cells C tc)) := by
  refine ⟨fun i => ?_, fun i => ?_, fun i => ?_, ?_, ?_⟩
  · rw [World.cell?_alloc_past _ _ _ (by simp; omega), World.cell?_alloc_past _ _ _ (by simp), World.cell?_alloc_at _ _ _ _ rfl]
  · rw [World.cell?_alloc_past _ _ _ (by simp), World.cell?_alloc_at _ _ _ _ (by simp)]
  · rw [World.cell?_alloc_at _ _ _ _ (by simp)]
  · rw [World.frozen?_alloc_past _ _ _ (by simp), World.frozen?_alloc_at _ _ _ _ (by simp)]
  · exact (((Below.refl _ _).alloc (Nat.le_refl _) _).alloc (by simp) _).alloc (by simp; omega) _

theorem wrap64_range (x : Int) : -9223372036854775808 ≤ wrap64 x ∧ wrap64 x ≤ 9223372036854775807 := by unfold wrap64; omega
theorem accTo_range (a : Int) (f : Nat → Int) (h : -9223372036854775808 ≤ a ∧ a ≤ 9223372036854775807) (n : Nat) : -9223372036854775808 ≤ accTo a f n ∧ accTo a f n ≤ 9223372036854775807 := by
  cases n with
  | zero => exact h
  | succ n => exact wrap64_range _
theorem acc_neg {A o : Int} (h : o < 0) : wrap64 (A + o) = wrap64 (A + neg0 o) := by unfold neg0; rw [if_neg (by omega)]
theorem acc_pos {A o : Int} (hA : -9223372036854775808 ≤ A ∧ A ≤ 9223372036854775807) (h : 0 ≤ o) : A = wrap64 (A + neg0 o) := by
  have : neg0 o = 0 := by unfold neg0; split <;> omega
  rw [this, Int.add_zero, IntWalk.wrap64_in _ hA]

set_option maxHeartbeats 1000000 in
set_option maxRecDepth 100000 in
theorem core (a0 a1 a2 a3 : Option Addr) (len0 cap0 len1 cap1 len2 cap2 len3 cap3 : Nat) (f0 f1 f2 f3 : Nat → Int) (s : Int) (w : World)
    (r0 : Rd .i64 w a0 len0 f0) (r1 : Rd .i64 w a1 len1 f1) (r2 : Rd .u16 w a2 len2 f2) (r3 : Rd .u16 w a3 len3 f3)
    (m0 : len0 ≤ 9223372036854775807) (m1 : len1 ≤ 9223372036854775807) (m2 : len2 ≤ 1024) (m3 : len3 ≤ 1024)
    (b2 : ∀ i, 0 ≤ f2 i ∧ f2 i ≤ 65535) (b3 : ∀ i, 0 ≤ f3 i ∧ f3 i ≤ 65535) :
    Calls Yba.prog 4 #[.slice a0 len0 cap0, .slice a1 len1 cap1, .slice a2 len2 cap2, .slice a3 len3 cap3, .int .i64 s] w fun e w' => e = .returned (.bool true) ∧ Below w.heap.size w w' := by
  obtain ⟨i21, hi, hz0, hz1, hz2⟩ := info_parts Yba.info21
  obtain ⟨i3, gi, gz0, gz1, gz2⟩ := info_parts Yba.info3
  go_enter Yba.func4, Yba.ntmps4
  go_upto_if 38 with (at_make; refine wpList_make_own _ rfl _ _ 35 rfl w.heap.size 21 i21 (.int .i32 0) 1 Yba.underlying35 hi hz0 hz1 _ _ _ len2 rfl rfl rfl (by rw [hz2]; omega) (by unfold maxLen; omega) (by simp) ?_; intro wa hown hgrow)
  have hbel : Below w.heap.size w wa := (Below.refl _ _).grown hgrow (Nat.le_refl _) (by simp)
  have hwa : w.heap.size < wa.heap.size := (hown.lt _ rfl).2
  clear hgrow
  go_cut [11] from 25 (fun v wx => ∃ nq : Nat, nq ≤ 1024 ∧ (nq = 0 ∨ 0 < len0) ∧ v = .slice (some ⟨w.heap.size, 0, none⟩) nq len2 ∧ wx.ownsRow w.heap.size 21 1 (.slice (some ⟨w.heap.size, 0, none⟩) nq len2) nq (qs .i32 (fun i => f2 i % len0) nq) ∧ Below w.heap.size w wx)
  case first =>
    by_cases h0 : 0 < len0
    · rw [decide_eq_true h0]
      go_wp2_with fail
      go_loopw [11, 41] (fun v i wr => ∃ k : Nat, k ≤ len2 ∧ i = .int .i64 k ∧ v = .slice (some ⟨w.heap.size, 0, none⟩) k len2 ∧ wr.ownsRow w.heap.size 21 1 (.slice (some ⟨w.heap.size, 0, none⟩) k len2) k (qs .i32 (fun i => f2 i % len0) k) ∧ Below w.heap.size w wr) (fun _ i _ => len2 - (intOf i).toNat)
      case atStart => exact ⟨0, Nat.zero_le _, rfl, rfl, hown, hbel⟩
      case round =>
        obtain ⟨k, hk, rfl, rfl, hown1, hbel1⟩ := hrel
        by_cases hlt : k < len2
        · obtain ⟨xb, xo, rfl, hxb, hxc⟩ := r2 (by omega)
          have hcx : wr.cell? ⟨xb, xo + k, none⟩ = some (.int .u16 (f2 k)) := (hbel1.cell (by exact hxb)).trans (hxc k hlt)
          have hbb := b2 k
          have hm0 := Int.emod_nonneg (f2 k) (show (len0 : Int) ≠ 0 by omega)
          have hm1 : f2 k % len0 ≤ 65535 := Int.le_trans (emod_le_self _ _ hbb.1) hbb.2
          have hsz := hbel1.size
          have hE := qs_succ .i32 (fun i => f2 i % len0) k
          have HE : Hid _ := hE
          clear hE hxc hown hbel r0 r1 r2 r3 b2 b3
          go_wp2_with (at_builtin; refine wpList_append_fits _ rfl (.tmp 45) (.tmp 52) 35 rfl w.heap.size 21 i21 1 Yba.underlying35 hi hz1 w.heap.size k len2 _ rfl (hown1.alloc _) ⟨wr.heap.size, 0, none⟩ 1 1 [.int .i32 (f2 k % len0)] rfl rfl (one_new _ _ _) (by intro u hu; simp at hu; subst hu; rfl) (by omega) ?_; intro w1 hown2 hgrow2)
          have hbel2 : Below w.heap.size w w1 := (hbel1.alloc hsz _).grown hgrow2 (by simp; omega) (by simp)
          clear hgrow2 hown1 hbel1 hcx
          go_wp2
          go_roundw
          case rel => exact ⟨k + 1, by omega, by go_num, rfl, by rw [HE.out]; exact hown2, hbel2⟩
          case measure => simp [intOf]; omega
        · go_wp2_with fail
          go_meet
          have hkl : k = len2 := by omega
          subst hkl
          case rel => exact ⟨k, m2, .inr h0, rfl, hown1, hbel1⟩
    · go_wp2_with fail
      go_meet
      case rel => exact ⟨0, by omega, .inl rfl, rfl, hown, hbel⟩
  case rest =>
    obtain ⟨nq, hnq, hq0, rfl, hown1, hbel1⟩ := hcut
    have hwc : w.heap.size < wc.heap.size := (hown1.lt _ rfl).2
    clear hown hbel hwa hz0 hz2
    go_upto_if 60 with (at_make; refine wpList_make_own _ rfl _ _ 37 rfl w.heap.size 3 i3 (.int .i64 0) 1 Yba.underlying37 gi gz0 gz1 _ _ _ len3 rfl rfl rfl (by rw [gz2]; omega) (by unfold maxLen; omega) (by omega) ?_; intro wb hown2 hgrow2)
    have hownq : wb.ownsRow w.heap.size 21 1 (.slice (some ⟨w.heap.size, 0, none⟩) nq len2) nq (qs .i32 (fun i => f2 i % len0) nq) := hown1.kept hgrow2 (.inr (by simp [Value.ownBlock]))
    have hbelb : Below w.heap.size w wb := hbel1.grown hgrow2 (by omega) (by simp)
    have hwb : wc.heap.size < wb.heap.size := (hown2.lt _ rfl).2
    clear hgrow2 hown1 hbel1 hz1
    go_cut [14] from 25 (fun v wx => ∃ gt nt : Nat, nt ≤ 1024 ∧ (nt = 0 ∨ 0 < len1) ∧ v = .slice (some ⟨gt, 0, none⟩) nt len3 ∧ wx.ownsRow w.heap.size 3 1 (.slice (some ⟨gt, 0, none⟩) nt len3) nt (qs .i64 (fun i => f3 i % len1) nt) ∧
      wx.ownsRow w.heap.size 21 1 (.slice (some ⟨w.heap.size, 0, none⟩) nq len2) nq (qs .i32 (fun i => f2 i % len0) nq) ∧ Below w.heap.size w wx)
    case first =>
      by_cases h0 : 0 < len1
      · rw [decide_eq_true h0]
        go_wp2_with fail
        go_loopw [14, 63] (fun v i wr => ∃ k : Nat, k ≤ len3 ∧ i = .int .i64 k ∧ v = .slice (some ⟨wc.heap.size, 0, none⟩) k len3 ∧ wr.ownsRow w.heap.size 3 1 (.slice (some ⟨wc.heap.size, 0, none⟩) k len3) k (qs .i64 (fun i => f3 i % len1) k) ∧
          wr.ownsRow w.heap.size 21 1 (.slice (some ⟨w.heap.size, 0, none⟩) nq len2) nq (qs .i32 (fun i => f2 i % len0) nq) ∧ Below w.heap.size w wr) (fun _ i _ => len3 - (intOf i).toNat)
        case atStart => exact ⟨0, Nat.zero_le _, rfl, rfl, hown2, hownq, hbelb⟩
        case round =>
          obtain ⟨k, hk, rfl, rfl, hown3, hownq3, hbel3⟩ := hrel
          by_cases hlt : k < len3
          · obtain ⟨xb, xo, rfl, hxb, hxc⟩ := r3 (by omega)
            have hcx : wr.cell? ⟨xb, xo + k, none⟩ = some (.int .u16 (f3 k)) := (hbel3.cell (by exact hxb)).trans (hxc k hlt)
            have hbb := b3 k
            have hm0 := Int.emod_nonneg (f3 k) (show (len1 : Int) ≠ 0 by omega)
            have hm1 : f3 k % len1 ≤ 65535 := Int.le_trans (emod_le_self _ _ hbb.1) hbb.2
            have hsz := hbel3.size
            have hE := qs_succ .i64 (fun i => f3 i % len1) k
            have HE : Hid _ := hE
            clear hE hxc hown2 hownq hbelb r0 r1 r2 r3 b2 b3
            go_wp2_with (at_builtin; refine wpList_append_fits _ rfl (.tmp 67) (.tmp 73) 37 rfl w.heap.size 3 i3 1 Yba.underlying37 gi gz1 wc.heap.size k len3 _ rfl (hown3.alloc _) ⟨wr.heap.size, 0, none⟩ 1 1 [.int .i64 (f3 k % len1)] rfl rfl (one_new _ _ _) (by intro u hu; simp at hu; subst hu; rfl) (by omega) ?_; intro w1 hown4 hgrow4)
            have hbel4 : Below w.heap.size w w1 := (hbel3.alloc hsz _).grown hgrow4 (by simp; omega) (by simp; omega)
            have hownq4 := (hownq3.alloc (.cells #[.int .i64 (f3 k % len1)] 3)).kept hgrow4 (.inr (by simp [Value.ownBlock]; omega))
            clear hgrow4 hown3 hbel3 hownq3 hcx
            go_wp2
            go_roundw
            case rel => exact ⟨k + 1, by omega, by go_num, rfl, by rw [HE.out]; exact hown4, hownq4, hbel4⟩
            case measure => simp [intOf]; omega
          · go_wp2_with fail
            go_meet
            have hkl : k = len3 := by omega
            subst hkl
            case rel => exact ⟨wc.heap.size, k, m3, .inr h0, rfl, hown3, hownq3, hbel3⟩
      · go_wp2_with fail
        go_meet
        case rel => exact ⟨wc.heap.size, 0, by omega, .inl rfl, rfl, hown2, hownq, hbelb⟩
    case rest =>
      obtain ⟨gt, nt, hnt, ht0, rfl, hown3, hownq3, hbel3⟩ := hcut
      have P1 := pick_of hownq3 hbel3 r0 hq0
      have P2 := pick_of hown3 hbel3 r1 ht0
      generalize (fun i => f0 (f2 i % len0).toNat) = cz at P1
      generalize (fun i => f1 (f3 i % len1).toNat) = oz at P2
      clear hown2 hownq hbelb hown3 hownq3 r0 r1 r2 r3 b2 b3 hq0 ht0 hwb hwc
      have hsz3 := hbel3.size
      go_wp2_with fail
      obtain ⟨t1, t2, t3, t4, t5⟩ := three wc #[.slice none 0 0, .slice a0 len0 cap0, .slice a1 len1 cap1, .slice (some ⟨w.heap.size, 0, none⟩) nq len2, .slice none 0 0, .slice none 0 0, .slice none 0 0]
        #[.int .i64 s, .int .i64 0, .bool false, .chan none, .nilFunc, .int .i64 0] #[.pointer none, .slice none 0 0, .int .i64 0, .nilIface, .slice none 0 0, .slice none 0 0, .slice none 0 0, .slice none 0 0, .slice (some ⟨gt, 0, none⟩) nt len3, .slice none 0 0, .slice none 0 0, .int .i64 0, .pointer (some ⟨wc.heap.size + 1, 0, none⟩)] 40 45 52
      refine (bound_own wc.heap.size (wc.heap.size + 1 + 1) (wc.heap.size + 1) len0 cap0 len1 cap1 w.heap.size nq len2 gt nt len3 a0 a1 s cz oz _ (by rw [t1]; rfl) (by rw [t1]; rfl) (by rw [t1]; rfl) (by rw [t3]; rfl) (by rw [t3]; rfl) (by rw [t2]; rfl) t4 (P1.below t5).out (P2.below t5).out hnq hnt (by unfold maxLen; omega) (by unfold maxLen; omega)).mono ?_
      rintro e w1 ⟨rfl, hs1, hg1⟩
      have hb1 : Below wc.heap.size wc w1 := t5.grown hg1 (by simp; omega) (by simp)
      have Q1 := (P1.below hb1).out
      have Q2 := (P2.below hb1).out
      have HB : Hid (Below w.heap.size w w1) := hbel3.trans (hb1.mono hsz3)
      clear hg1 hb1 t1 t2 t3 t4 t5 P1 P2 hbel3
      go_wp2_with fail
      go_loop [21, 22] (fun v i => ∃ k : Nat, k ≤ nq ∧ i = .int .i64 k ∧ v = .int .i64 (accTo 0 cz k)) (fun _ i => nq - (intOf i).toNat)
      case atStart => exact ⟨0, Nat.zero_le _, rfl, rfl⟩
      case round =>
        obtain ⟨k, hk, rfl, rfl⟩ := hrel
        by_cases hlt : k < nq
        · obtain ⟨j, hj, hqc, xb, xo, rfl, hcc⟩ := Q1 k hlt
          have hE : Hid (accTo 0 cz (k + 1) = wrap64 (accTo 0 cz k + cz k)) := rfl
          clear Q1 Q2
          go_wp2
          go_round
          case rel => exact ⟨k + 1, by omega, by go_num, by rw [hE.out]⟩
          case measure => simp [intOf]; omega
        · have hkn : k = nq := by omega
          subst hkn
          clear Q1 hlt
          have hR0 := accTo_range 0 cz (by omega) k
          go_wp2
          generalize accTo 0 cz k = A0 at *
          go_loop [21, 23] (fun v i => ∃ m : Nat, m ≤ nt ∧ i = .int .i64 m ∧ v = .int .i64 (accTo A0 (fun k => neg0 (oz k)) m)) (fun _ i => nt - (intOf i).toNat)
          case atStart => exact ⟨0, Nat.zero_le _, rfl, rfl⟩
          case round =>
            obtain ⟨m, hm, rfl, rfl⟩ := hrel
            by_cases hlt : m < nt
            · obtain ⟨j, hj, hqc, xb, xo, rfl, hcc⟩ := Q2 m hlt
              have hE : Hid (accTo A0 (fun k => neg0 (oz k)) (m + 1) = wrap64 (accTo A0 (fun k => neg0 (oz k)) m + neg0 (oz m))) := rfl
              have hR := accTo_range A0 (fun k => neg0 (oz k)) hR0 m
              clear Q2
              by_cases ho : oz m < 0
              · go_wp2
                go_round
                case rel => exact ⟨m + 1, by omega, by go_num, by rw [hE.out, acc_neg ho]⟩
                case measure => simp [intOf]; omega
              · go_wp2
                go_round
                case rel => exact ⟨m + 1, by omega, by go_num, by rw [hE.out, ← acc_pos hR (by omega)]⟩
                case measure => simp [intOf]; omega
            · have hkn : m = nt := by omega
              subst hkn
              clear Q2 hlt
              go_wp2
              go_ret
              exact ⟨rfl, HB.out⟩
end Go.Proofs.Ybulkfkm
