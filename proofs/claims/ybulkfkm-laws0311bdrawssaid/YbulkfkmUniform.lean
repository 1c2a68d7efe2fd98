import Derived.Test.YbulkfkmRowLaws
import Derived.Laws.BitsAllLaws
namespace Go.Proofs.Ybulkfkm
open Go.RowKit
set_option linter.unusedVariables false

def maxU : Int := 18446744073709551615
/-- N less one, p its last digit that is not 0. -/
def decAt (N : Nat → Int) (p : Nat) : Nat → Int := fun i => if i < p then N i else if i = p then N p - 1 else maxU
/-- N less one on its way: the digits from j on are done. -/
def decTo (N : Nat → Int) (j : Nat) : Nat → Int := fun i => if i < j then N i else maxU

theorem decTo_step {N : Nat → Int} {j : Nat} : upd (decTo N (j + 1)) j maxU = decTo N j := by
  funext i; unfold upd decTo
  by_cases e : i = j
  · subst e; simp
  · rw [if_neg e]
    by_cases h : i < j
    · rw [if_pos h, if_pos (by omega)]
    · rw [if_neg h, if_neg (by omega)]
theorem decTo_end {N : Nat → Int} {j : Nat} : upd (decTo N (j + 1)) j (N j - 1) = decAt N j := by
  funext i; unfold upd decTo decAt
  by_cases e : i = j
  · subst e; simp
  · rw [if_neg e]
    by_cases h : i < j
    · rw [if_pos h, if_pos (by omega)]
    · rw [if_neg h, if_neg (by omega), if_neg e]

/-- The mask of L ones. -/
def maskOf (L : Nat) : Int := 18446744073709551615 / 2 ^ (64 - L)
theorem method_uint64 (a : Addr) (w : World) : (method 201 25 (.pointer (some a)) "Uint64").run Yba.prog w = .ok (31, .pointer (some a)) w := by kernel_rfl
theorem bitLen_64 (x : Int) (h0 : 0 ≤ x) (h1 : x ≤ 18446744073709551615) : Lib.bitLen x.toNat ≤ 64 := Lib.bitLen_le x.toNat 64 (Nat.le_refl _) (by omega)

theorem maskOf_bd (L : Nat) : 0 ≤ maskOf L ∧ maskOf L < 18446744073709551616 := by
  unfold maskOf
  have h2 : (0 : Int) < 2 ^ (64 - L) := Int.pow_pos (by omega)
  have h1 : (18446744073709551615 : Int) / 2 ^ (64 - L) ≤ 18446744073709551615 := Int.ediv_le_self _ (by omega)
  exact ⟨Int.ediv_nonneg (by omega) (by omega), by omega⟩

/-- One try: the answers from 'pos' on, the first cut to the mask. -/
def cand (f : Nat → Int) (n T : Nat) (mk : Int) (pos : Nat) : Nat → Int := fun i => if i < T then 0 else if i = T then bits BinOp.and IntKind.u64 (ansAt f n pos) mk else ansAt f n (pos + (i - T))

theorem cand_zero {f : Nat → Int} {n T : Nat} {mk : Int} {pos : Nat} (hp : n ≤ pos) (h0 : 0 ≤ mk) (h1 : mk < 18446744073709551616) (i : Nat) : cand f n T mk pos i = 0 := by
  unfold cand
  split
  · rfl
  · split
    · rw [show ansAt f n pos = 0 from if_neg (by omega), u64_and 0 mk (by omega) (by omega) h0 h1]; simp
    · exact if_neg (by omega)

theorem lex_congr {f f' g : Nat → Int} {d : Nat} (h : ∀ i, i < d → f i = f' i) : ∀ k, k ≤ d → lexFrom f g d k = lexFrom f' g d k := by
  intro k hk
  induction k with
  | zero => rfl
  | succ k ih =>
    unfold lexFrom
    rw [h (d - (k + 1)) (by omega), ih (by omega)]

theorem lex_zero {f g : Nat → Int} {d : Nat} (hf : ∀ i, i < d → f i = 0) (hg : ∀ i, 0 ≤ g i) : ∀ k, k ≤ d → (∃ p, d - k ≤ p ∧ p < d ∧ g p ≠ 0) → lexFrom f g d k = true := by
  intro k
  induction k with
  | zero => intro _ ⟨p, h1, h2, _⟩; omega
  | succ k ih =>
    intro hk ⟨p, h1, h2, h3⟩
    unfold lexFrom
    by_cases e : f (d - (k + 1)) = g (d - (k + 1))
    · rw [if_pos e]
      refine ih (by omega) ⟨p, ?_, h2, h3⟩
      rw [hf _ (by omega)] at e
      by_cases hp : p = d - (k + 1)
      · subst hp; omega
      · omega
    · rw [if_neg e, hf _ (by omega)]
      rw [hf _ (by omega)] at e
      have := hg (d - (k + 1))
      simp; omega

/-- A try that comes behind the last answer is 0, so it lies below N. -/
theorem tries_le {f N : Nat → Int} {n T d q p : Nat} {mk : Int} (hT : T < d) (h0 : 0 ≤ mk) (h1 : mk < 18446744073709551616) (hN : ∀ i, 0 ≤ N i) (hp : p < d) (hpn : N p ≠ 0)
    (hq : ∀ r, r < q → lexFrom (cand f n T mk (r * (d - T))) N d d = false) : q ≤ n := by
  refine Decidable.byContradiction fun h => ?_
  have := hq n (by omega)
  rw [lex_zero (fun i _ => cand_zero (by have : n * 1 ≤ n * (d - T) := Nat.mul_le_mul_left n (by omega); omega) h0 h1 i) hN d (Nat.le_refl _) ⟨p, by omega, hp, hpn⟩] at this
  cases this

/-- What the draw leaves: q is the first try that lies below N. -/
def Drawn (f N : Nat → Int) (n T d : Nat) (mk : Int) (q : Nat) : Prop :=
  (∀ r, r < q → lexFrom (cand f n T mk (r * (d - T))) N d d = false) ∧ lexFrom (cand f n T mk (q * (d - T))) N d d = true

theorem Drawn.unique {f N : Nat → Int} {n T d q q' : Nat} {mk : Int} (h : Drawn f N n T d mk q) (h' : Drawn f N n T d mk q') : q = q' := by
  rcases Nat.lt_trichotomy q q' with hlt | e | hlt
  · have := h'.1 q hlt; rw [h.2] at this; cases this
  · exact e
  · have := h.1 q' hlt; rw [h'.2] at this; cases this

set_option maxHeartbeats 2000000 in
set_option maxRecDepth 100000 in
theorem uniform_any (B gN gR gS d p T n c : Nat) (a : Option Addr) (N R0 f : Nat → Int) (w : World)
    (hd : d ≤ 256) (hp : p < d) (hpn : N p ≠ 0) (hpz : ∀ i, p < i → i < d → N i = 0) (hN : ∀ i, 0 ≤ N i ∧ N i ≤ 18446744073709551615)
    (hT : T ≤ d) (hT0 : ∀ i, i < T → decAt N p i = 0) (hT1 : T < d → decAt N p T ≠ 0)
    (rN : Row w gN d N) (rR : Row w gR d R0) (hS : Src w gS a n c 0) (hV : ValsB B w a n f) (hn : n ≤ 4096)
    (hB : B ≤ w.heap.size) (b1 : B ≤ gN) (b2 : B ≤ gR) (b3 : B ≤ gS) (d1 : gN ≠ gR) (d2 : gN ≠ gS) (d3 : gR ≠ gS) :
    Calls Yba.prog 6 #[.slice (some ⟨gN, 0, none⟩) d d, .slice (some ⟨gR, 0, none⟩) d d, .iface 25 (.pointer (some ⟨gS, 0, none⟩))] w fun e w' => e = .returned (.tuple #[]) ∧ Touch (fun k => k = gR ∨ k = gS) w w' ∧
      ((T = d ∧ Row w' gR d (decAt N p) ∧ Src w' gS a n c 0) ∨ (T < d ∧ ∃ q, Drawn f N n T d (maskOf (Lib.bitLen (decAt N p T).toNat)) q ∧ Row w' gR d (cand f n T (maskOf (Lib.bitLen (decAt N p T).toNat)) (q * (d - T))) ∧ Src w' gS a n c (q * (d - T) + (d - T)))) := by
  have vN : Vals w (some ⟨gN, 0, none⟩) d N := fun i hi => ⟨gN, 0, rfl, by rw [Nat.zero_add]; exact rN.num i hi⟩
  obtain ⟨w1, hcp, r1, t1⟩ := copy_run w 24 24 3 Yba.underlying24 gR d d (some ⟨gN, 0, none⟩) R0 N rR vN (by omega)
  go_enter Yba.func6, Yba.ntmps6
  go_wp2
  clear hcp
  have HZ : Hid (∀ i, p < i → i < d → N i = 0) := hpz
  have HN : Hid (∀ i, 0 ≤ N i ∧ N i ≤ 18446744073709551615) := hN
  have HT0 : Hid (∀ i, i < T → decAt N p i = 0) := hT0
  have HT1 : Hid (T < d → decAt N p T ≠ 0) := hT1
  have HP : Hid (N p ≠ 0) := hpn
  have RN : Row w1 gN d N := t1.row rN d1
  have HS1 : Src w1 gS a n c 0 := t1.src hS (by omega)
  have HV1 : ValsB B w1 a n f := hV.below (t1.below hB (by intro k hk; omega))
  have TT : Touch (fun k => k = gR ∨ k = gS) w w1 := t1.mono (fun k hk => .inl hk)
  have hB1 : B ≤ w1.heap.size := Nat.le_trans hB t1.size
  clear hpz hN hT0 hT1 hpn rN rR vN t1 hS hV
  go_loopw [6] (fun i wr => ∃ m : Nat, p ≤ m ∧ m < d ∧ i = .int .i64 m ∧ Row wr gR d (decTo N (m + 1)) ∧ Touch (fun k => k = gR) w1 wr) (fun i _ => (intOf i).toNat)
  case atStart => exact ⟨d - 1, by omega, by omega, by congr 1; omega, r1.congr (fun i hi => by unfold decTo; rw [if_pos (by omega)]), Touch.refl _ _⟩
  case round =>
    obtain ⟨m, hm1, hm2, rfl, rr, tr⟩ := hrel
    have fr := rr.frozen m
    by_cases hmp : m = p
    · subst hmp
      have c1 : wr.cell? ⟨gR, m, none⟩ = some (.int .u64 (N m)) := by rw [rr.num m hm2]; unfold decTo; rw [if_pos (by omega)]
      have hb := HN.out m
      have hb1 : 1 ≤ N m := by have := HP.out; omega
      have r2 := rr.set m (N m - 1)
      rw [decTo_end] at r2
      have t2 := tr.trans (touch_setCell (fun k => k = gR) wr ⟨gR, m, none⟩ (.int .u64 (N m - 1)) rfl)
      clear rr tr
      go_wp2
      clear c1 fr
      generalize wr.setCell ⟨gR, m, none⟩ (.int .u64 (N m - 1)) = w2 at *
      go_loop [7] (fun i => ∃ k : Nat, k ≤ T ∧ i = .int .i64 k) (fun i => T - (intOf i).toNat)
      case atStart => exact ⟨0, Nat.zero_le _, rfl⟩
      case round =>
        obtain ⟨k, hk, rfl⟩ := hrel
        by_cases hlt : k < T
        · have hkd : k < d := by omega
          have c1 : w2.cell? ⟨gR, k, none⟩ = some (.int .u64 0) := by rw [r2.num k hkd, HT0.out k hlt]
          go_wp2
          go_round
          case rel => exact ⟨k + 1, by omega, by go_num⟩
          case measure => simp [intOf]; omega
        · have hkT : k = T := by omega
          subst hkT
          clear hlt hk
          by_cases hkd : k < d
          · have c1 : w2.cell? ⟨gR, k, none⟩ = some (.int .u64 (decAt N m k)) := r2.num k hkd
            have hx : 0 ≤ decAt N m k ∧ decAt N m k ≤ 18446744073709551615 := by
              unfold decAt maxU
              have := HN.out k
              split
              · exact this
              · split
                · omega
                · omega
            have hne : (decAt N m k == 0) = false := by simpa using HT1.out hkd
            have hkd' : ((k : Int) == (d : Int)) = false := by simp; omega
            have hL : Lib.bitLen (decAt N m k).toNat ≤ 64 := bitLen_64 _ hx.1 hx.2
            have lz := fun W => Yba.bits_LeadingZeros64 (decAt N m k) W hx.1 hx.2
            generalize hxe : decAt N m k = x at *
            have HX : Hid _ := hxe
            clear hxe
            generalize hLe : Lib.bitLen x.toNat = L at *
            have HL : Hid _ := hLe
            clear hLe
            go_wp2_with (go_at_call 12; refine (lz _).mono ?_; rintro e w' ⟨rfl, rfl⟩)
            clear lz
            have hmk := maskOf_bd L
            have hMk : (18446744073709551615 : Int) / 2 ^ (64 - L) = maskOf L := rfl
            rw [hMk]
            generalize hme : maskOf L = mk at *
            have HM : Hid _ := hme
            clear hMk hL hme
            have hmeth := method_uint64 ⟨gS, 0, none⟩
            have t2' : Touch (fun k => k = gR ∨ k = gS) w1 w' := t2.mono (fun k hk => .inl hk)
            have S2 := t2.src HS1 (by omega)
            have R2z : ∀ i, i < k → decAt N m i = 0 := HT0.out
            have HR2 : Hid _ := R2z
            clear R2z
            go_loopg [9] (n + 1) (fun g _ wr => ∃ (q pos : Nat) (R : Nat → Int), g = n + 1 - q ∧ Hid (pos = q * (d - k)) ∧ Hid (∀ r, r < q → lexFrom (cand f n k mk (r * (d - k))) N d d = false) ∧ Hid (∀ i, i < k → R i = 0) ∧ Row wr gR d R ∧ Src wr gS a n c pos ∧ Touch (fun k => k = gR ∨ k = gS) w1 wr)
            case atStart => exact ⟨0, 0, decAt N m, rfl, by simp [Hid], fun r hr => absurd hr (Nat.not_lt_zero _), HR2, r2, S2, t2'⟩
            case round =>
              obtain ⟨q, pos, R, hg, hpos, hqs, hR0, rr, hs, tr⟩ := hrel
              have hV2 : ValsB B wr a n f := HV1.below (tr.below hB1 (by intro k hk; omega))
              have hqn : q ≤ n := tries_le hkd hmk.1 hmk.2 (fun i => (HN.out i).1) hm2 HP.out hqs.out
              have hps : pos ≤ 4096 * 256 := by rw [hpos.out]; exact Nat.mul_le_mul (by omega) (by omega)
              clear r2 c1 t2 t2' S2
              go_wp2_with (go_at_call 31; refine (uint64_row B a n c _ gS f _ hV2 hn (by omega) hs).mono ?_; rintro e w3 ⟨rfl, s3, t3⟩; have r3 := t3.row rr d3; have c3 := r3.num k hkd; have f3 := r3.frozen k)
              have r4 := r3.set k (bits BinOp.and IntKind.u64 (ansAt f n pos) mk)
              have t4 := (tr.trans (t3.mono (fun k hk => .inr hk))).trans (touch_setCell (fun k => k = gR ∨ k = gS) w3 ⟨gR, k, none⟩ (.int .u64 (bits BinOp.and IntKind.u64 (ansAt f n pos) mk)) (.inl rfl))
              have s4 := (touch_setCell (fun k => k = gR) w3 ⟨gR, k, none⟩ (.int .u64 (bits BinOp.and IntKind.u64 (ansAt f n pos) mk)) rfl).src s3 (by omega)
              have F4 : ∀ i, i < k + 1 → upd R k (bits BinOp.and IntKind.u64 (ansAt f n pos) mk) i = cand f n k mk pos i := by
                intro i hi
                unfold upd cand
                by_cases e : i = k
                · rw [if_pos e, if_neg (by omega), if_pos e]
                · rw [if_neg e, if_pos (by omega), hR0.out i (by omega)]
              have H4 : Hid _ := F4
              clear F4 r3 c3 f3 s3 t3 rr hs tr hV2 hR0
              generalize upd R k (bits BinOp.and IntKind.u64 (ansAt f n pos) mk) = R4 at *
              generalize w3.setCell ⟨gR, k, none⟩ (.int .u64 (bits BinOp.and IntKind.u64 (ansAt f n pos) mk)) = w4 at *
              go_loopw [9] (fun i wx => ∃ (j : Nat) (F : Nat → Int), k + 1 ≤ j ∧ j ≤ d ∧ i = .int .i64 j ∧ Hid (∀ i, i < j → F i = cand f n k mk pos i) ∧ Row wx gR d F ∧ Src wx gS a n c (pos + (j - k)) ∧ Touch (fun k => k = gR ∨ k = gS) w1 wx) (fun i _ => d - (intOf i).toNat)
              case atStart => exact ⟨k + 1, R4, by omega, by omega, by go_num, H4, r4, by rw [show pos + (k + 1 - k) = pos + 1 by omega]; exact s4, t4⟩
              case round =>
                clear r4 s4 t4 H4
                obtain ⟨j, F, hj1, hj2, rfl, hF, rr, hs, tr⟩ := hrel
                by_cases hlt : j < d
                · have hV2 : ValsB B wr a n f := HV1.below (tr.below hB1 (by intro k hk; omega))
                  have hU := uint64_row B a n c (pos + (j - k)) gS f wr hV2 hn (by omega) hs
                  go_wp2_with (go_at_call 31; refine hU.mono ?_; rintro e w3 ⟨rfl, s3, t3⟩; have r3 := t3.row rr d3; have c3 := r3.num j hlt; have f3 := r3.frozen j)
                  have r4 := r3.set j (ansAt f n (pos + (j - k)))
                  have t4 := (tr.trans (t3.mono (fun k hk => .inr hk))).trans (touch_setCell (fun k => k = gR ∨ k = gS) w3 ⟨gR, j, none⟩ (.int .u64 (ansAt f n (pos + (j - k)))) (.inl rfl))
                  have s4 := (touch_setCell (fun k => k = gR) w3 ⟨gR, j, none⟩ (.int .u64 (ansAt f n (pos + (j - k)))) rfl).src s3 (by omega)
                  have F4 : ∀ i, i < j + 1 → upd F j (ansAt f n (pos + (j - k))) i = cand f n k mk pos i := by
                    intro i hi
                    unfold upd
                    by_cases e : i = j
                    · rw [if_pos e, e]; unfold cand; rw [if_neg (by omega), if_neg (by omega)]
                    · rw [if_neg e, hF.out i (by omega)]
                  have H4 : Hid _ := F4
                  clear F4 r3 c3 f3 s3 t3 rr hs tr hV2 hF hU
                  go_roundw
                  case rel => exact ⟨j + 1, _, by omega, by omega, by go_num, H4, r4, by rw [show pos + (j + 1 - k) = pos + (j - k) + 1 by omega]; exact s4, t4⟩
                  case measure => simp [intOf]; omega
                · have hjd : j = d := by omega
                  subst hjd
                  have rN2 := tr.row RN (by omega)
                  have hle := lex_congr (g := N) hF.out j (Nat.le_refl _)
                  have hless := less_any gR gN j F N wr rr.num rN2.num hd
                  have rr2 := rr.congr hF.out
                  cases hb : lexFrom (cand f n k mk pos) N j j with
                  | false =>
                    rw [hle, hb] at hless
                    clear hlt rr hle hF
                    go_wp2_with (go_at_call 13; refine hless.mono ?_; rintro e w5 ⟨rfl, h5⟩)
                    go_roundg (n + 1 - (q + 1))
                    case measure => omega
                    case rel =>
                      refine ⟨q + 1, pos + (j - k), cand f n k mk pos, rfl, ?_, ?_, ?_, h5.row rr2, h5.src hs, tr.trans (h5.touch _)⟩
                      · show _ = _
                        rw [hpos.out, Nat.add_mul, Nat.one_mul]
                      · intro r hr
                        by_cases e : r = q
                        · rw [e, ← hpos.out]; exact hb
                        · exact hqs.out r (by omega)
                      · intro i hi
                        unfold cand
                        rw [if_pos hi]
                  | true =>
                    rw [hle, hb] at hless
                    clear hlt rr hle hF
                    go_wp2_with (go_at_call 13; refine hless.mono ?_; rintro e w5 ⟨rfl, h5⟩)
                    refine bodyPost_ret (results_none rfl _ _ _) rfl ?_
                    refine ⟨rfl, TT.trans (tr.trans (h5.touch _)), .inr ⟨hkd, q, ?_⟩⟩
                    rw [HX.out, HL.out, HM.out, ← hpos.out]
                    exact ⟨⟨hqs.out, by rw [← hpos.out]; exact hb⟩, h5.row rr2, h5.src hs⟩
          · have hkd1 : k = d := by omega
            have S2 := t2.src HS1 (by omega)
            have hfin : Touch (fun k => k = gR ∨ k = gS) w w2 := TT.trans (t2.mono (fun k hk => .inl hk))
            go_wp2
            refine bodyPost_ret (results_none rfl _ _ _) rfl ?_
            exact ⟨rfl, hfin, r2, S2⟩
    · have c1 : wr.cell? ⟨gR, m, none⟩ = some (.int .u64 0) := by rw [rr.num m hm2]; unfold decTo; rw [if_pos (by omega), HZ.out m (by omega) hm2]
      have r2 := rr.set m maxU
      obtain ⟨k, rfl⟩ : ∃ k, m = k + 1 := ⟨m - 1, by omega⟩
      rw [decTo_step] at r2
      have t2 := tr.trans (touch_setCell (fun k => k = gR) wr ⟨gR, k + 1, none⟩ (.int .u64 maxU) rfl)
      clear rr tr
      go_wp2
      go_roundw
      case rel => exact ⟨k, by omega, by omega, by go_num, r2, t2⟩
      case measure => simp [intOf]
end Go.Proofs.Ybulkfkm
