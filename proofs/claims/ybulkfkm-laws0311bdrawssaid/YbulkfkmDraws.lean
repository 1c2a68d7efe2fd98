import Derived.Test.YbulkfkmUniform
namespace Go.Proofs.Ybulkfkm
open Go.RowKit
set_option linter.unusedVariables false

theorem Row.below {L : Nat} {w w' : World} {g d : Nat} {f : Nat → Int} (h : Row w g d f) (hb : Below L w w') (hg : g < L) : Row w' g d f := (hb.block g hg).trans h
theorem Src.below {L : Nat} {w w' : World} {g : Nat} {a : Option Addr} {n c k : Nat} (h : Src w g a n c k) (hb : Below L w w') (hg : g < L) : Src w' g a n c k := (hb.block g hg).trans h
theorem ValsB.of_below {B : Nat} {w w' : World} {L : Nat} {a : Option Addr} {n : Nat} {f : Nat → Int} (h : ValsB B w a n f) (hb : Below L w w') (hBL : B ≤ L) : ValsB B w' a n f := h.below (hb.mono hBL)
theorem Row.vals {w : World} {g d : Nat} {f : Nat → Int} (h : Row w g d f) : Vals w (some ⟨g, 0, none⟩) d f := fun i hi => ⟨g, 0, rfl, by rw [Nat.zero_add]; exact h.num i hi⟩

theorem hid {p : Prop} (h : p) : Hid p := h

theorem last_nonzero {N : Nat → Int} : ∀ {d : Nat}, (∃ p, p < d ∧ N p ≠ 0) → ∃ p, p < d ∧ N p ≠ 0 ∧ ∀ i, p < i → i < d → N i = 0 := by
  intro d
  induction d with
  | zero => rintro ⟨p, h, _⟩; omega
  | succ d ih =>
    rintro ⟨p, hp, hn⟩
    by_cases hd : N d = 0
    · have : p ≠ d := fun e => hn (e ▸ hd)
      obtain ⟨q, hq, hqn, hz⟩ := ih ⟨p, by omega, hn⟩
      refine ⟨q, by omega, hqn, fun i h1 h2 => ?_⟩
      by_cases e : i = d
      · rw [e]; exact hd
      · exact hz i h1 (by omega)
    · exact ⟨d, by omega, hd, fun i h1 h2 => by omega⟩

theorem first_nonzero (M : Nat → Int) : ∀ d : Nat, ∃ T, T ≤ d ∧ (∀ i, i < T → M i = 0) ∧ (T < d → M T ≠ 0) := by
  intro d
  induction d with
  | zero => exact ⟨0, Nat.le_refl _, fun i hi => by omega, fun h => by omega⟩
  | succ d ih =>
    obtain ⟨T, h1, h2, h3⟩ := ih
    by_cases e : T < d
    · exact ⟨T, by omega, h2, fun _ => h3 e⟩
    · have : T = d := by omega
      subst this
      by_cases hM : M T = 0
      · refine ⟨T + 1, by omega, fun i hi => ?_, fun h => by omega⟩
        by_cases e : i = T
        · rw [e]; exact hM
        · exact h2 i (by omega)
      · exact ⟨T, by omega, h2, fun _ => hM⟩

/-- What a draw comes to: the digits E and the count K of answers taken. -/
def Out (f N : Nat → Int) (n T d p : Nat) (E : Nat → Int) (K : Nat) : Prop :=
  (T = d ∧ K = 0 ∧ ∀ i, i < d → E i = 0) ∨
  (T < d ∧ ∃ q, Drawn f N n T d (maskOf (Lib.bitLen (decAt N p T).toNat)) q ∧ K = q * (d - T) + (d - T) ∧ ∀ i, i < d → E i = cand f n T (maskOf (Lib.bitLen (decAt N p T).toNat)) (q * (d - T)) i)

theorem Out.unique {f N : Nat → Int} {n T d p : Nat} {E E' : Nat → Int} {K K' : Nat} (h : Out f N n T d p E K) (h' : Out f N n T d p E' K') : K = K' ∧ ∀ i, i < d → E i = E' i := by
  rcases h with ⟨e1, e2, e3⟩ | ⟨e1, q, e2, e3, e4⟩
  · rcases h' with ⟨_, k2, k3⟩ | ⟨k1, _⟩
    · exact ⟨by omega, fun i hi => by rw [e3 i hi, k3 i hi]⟩
    · omega
  · rcases h' with ⟨k1, _⟩ | ⟨_, q', k2, k3, k4⟩
    · omega
    · have := e2.unique k2
      subst this
      exact ⟨by omega, fun i hi => by rw [e4 i hi, k4 i hi]⟩

set_option maxHeartbeats 4000000 in
set_option maxRecDepth 100000 in
theorem draws_core (a0 a1 : Option Addr) (d cap0 n cap1 : Nat) (f0 f1 : Nat → Int) (junk : Int) (w : World) (hd0 : 0 < d) (hd : d ≤ 256) (hn : n ≤ 4096)
    (v0 : ValsB w.heap.size w a0 d f0) (v1 : ValsB w.heap.size w a1 n f1) (hf0 : ∀ i, 0 ≤ f0 i ∧ f0 i ≤ 18446744073709551615) :
    Calls Yba.prog 3 #[.slice a0 d cap0, .slice a1 n cap1, .int .u64 junk] w fun e w' => e = .returned (.bool true) ∧ Below w.heap.size w w' := by
  obtain ⟨i23, hi, hz0, hz1, hz2⟩ := info_parts Yba.info23
  have hd00 : ((d : Int) == 0) = false := by simp; omega
  have HF0 : Hid (∀ i, 0 ≤ f0 i ∧ f0 i ≤ 18446744073709551615) := hf0
  clear hf0
  go_enter Yba.func3, Yba.ntmps3
  go_wp2_with (first
    | (at_make; refine wpList_make_full _ rfl (.tmp 36) (.tmp 36) 24 rfl w.heap.size 23 i23 (.int .u64 0) 1 Yba.underlying24 hi hz0 hz1 _ _ _ _ d rfl rfl rfl rfl (by rw [hz2]; omega) (by unfold maxLen; omega) (by simp) ?_; intro wa hown0 hgrow0; obtain ⟨w1, hcp, r1, t1⟩ := copy_run wa 24 22 3 Yba.underlying24 w.heap.size d cap0 a0 (fun _ => 0) f0 (row_of_made hown0) (v0.below ((touch_of_grown hgrow0).below (Nat.le_refl _) (by simp))).vals hd0))
  have B1 : Below w.heap.size w w1 := ((touch_of_grown hgrow0).below (Nat.le_refl _) (by simp)).trans (t1.below (hgrow0.size) (by intro k hk; omega))
  clear hown0 hgrow0 t1 v0 hcp
  go_loop [9, 10] (fun z i => ∃ (k : Nat) (b : Bool), k ≤ d ∧ i = .int .i64 k ∧ z = .bool b ∧ Hid (b = true ↔ ∀ j, j < k → f0 j = 0)) (fun _ i => d - (intOf i).toNat)
  case atStart => exact ⟨0, true, Nat.zero_le _, rfl, rfl, by simp [Hid]⟩
  case round =>
    obtain ⟨k, b, hk, rfl, rfl, hb⟩ := hrel
    by_cases hlt : k < d
    · have c1 := r1.num k hlt
      by_cases hz : f0 k = 0
      · have hzb : (f0 k != 0) = false := by simp [hz]
        have HZ : Hid _ := hz
        clear hz
        go_wp2
        go_round
        case rel =>
          refine ⟨k + 1, b, by omega, by go_num, rfl, ?_⟩
          constructor
          · intro h j hj
            by_cases e : j = k
            · rw [e]; exact HZ.out
            · exact hb.out.1 h j (by omega)
          · intro h
            exact hb.out.2 (fun j hj => h j (by omega))
        case measure => simp [intOf]; omega
      · have hzb : (f0 k != 0) = true := by simp [hz]
        have HZ : Hid _ := hz
        clear hz
        go_wp2
        go_round
        case rel =>
          refine ⟨k + 1, false, by omega, by go_num, rfl, ?_⟩
          constructor
          · intro h; cases h
          · intro h
            exact absurd (h k (by omega)) HZ.out
        case measure => simp [intOf]; omega
    · have hkd : k = d := by omega
      subst hkd
      clear hlt
      go_upto_if 51 with fail
      go_cut [8] from 24 (fun v wx => v = .slice (some ⟨w.heap.size, 0, none⟩) k k ∧ ∃ N : Nat → Int, Row wx w.heap.size k N ∧ Hid (∃ p, p < k ∧ N p ≠ 0) ∧ Hid (∀ i, 0 ≤ N i ∧ N i ≤ 18446744073709551615) ∧ Below w.heap.size w wx)
      case first =>
        cases b with
        | true =>
          have c1 := r1.num (k - 1) (by omega)
          have f1 := r1.frozen (k - 1)
          have r2 := r1.set (k - 1) 1
          have B2 : Below w.heap.size w _ := B1.setCell (p := ⟨w.heap.size, k - 1, none⟩) (Nat.le_refl _) (.int .u64 1)
          go_wp2_with fail
          go_meet
          case rel =>
            refine ⟨rfl, upd f0 (k - 1) 1, r2, ⟨k - 1, by omega, by unfold upd; rw [if_pos rfl]; omega⟩, fun i => ?_, B2⟩
            unfold upd
            have := HF0.out i
            split <;> omega
        | false =>
          go_wp2_with fail
          go_meet
          case rel =>
            refine ⟨rfl, f0, r1, ?_, HF0, B1⟩
            refine Classical.byContradiction fun h => ?_
            have := hb.out.2 (fun j hj => Classical.byContradiction fun hne => h ⟨j, hj, hne⟩)
            cases this
      case rest =>
        obtain ⟨rfl, N, rN, hNn, hNb, B2⟩ := hcut
        clear r1 B1 hb HF0
        have hL1 := rN.lt
        go_wp2_with (first
          | (at_make; refine wpList_make_full _ rfl (.tmp 56) (.tmp 56) 22 rfl w.heap.size 23 i23 (.int .u64 0) 1 Yba.underlying22 hi hz0 hz1 _ _ _ _ k rfl rfl rfl rfl (by rw [hz2]; omega) (by unfold maxLen; omega) (by omega) ?_; intro wb hown0 hgrow0; have rN1 := (touch_of_grown hgrow0).row rN (by simp); obtain ⟨w2, hcp, r2, t2⟩ := copy_run wb 22 24 3 Yba.underlying22 wc.heap.size k k (some ⟨w.heap.size, 0, none⟩) (fun _ => 0) N (row_of_made hown0) rN1.vals hd0)
          | (at_make; refine wpList_make_full _ rfl (.tmp 61) (.tmp 61) 24 rfl w.heap.size 23 i23 (.int .u64 0) 1 Yba.underlying24 hi hz0 hz1 _ _ _ _ k rfl rfl rfl rfl (by rw [hz2]; omega) (by unfold maxLen; omega) (by have := hgrow0.size; have := t2.size; omega) ?_; intro wd hown1 hgrow1))
        have tt0 := touch_of_grown hgrow0
        have tt1 := touch_of_grown hgrow1
        have L0 := (row_of_made hown0).lt
        have L2 := r2.lt
        have r0 := tt1.row r2 (by simp)
        have rN2 := tt1.row (t2.row rN1 (by omega)) (by simp)
        have rR := row_of_made hown1
        have L3 := rR.lt
        have B3 : Below w.heap.size w wd := ((B2.trans (tt0.below (by omega) (by simp))).trans (t2.below (by omega) (by intro k hk; omega))).trans (tt1.below (by omega) (by simp))
        clear hcp hown0 hgrow0 t2 r2 rN1 hown1 hgrow1 tt0 tt1 rN B2
        generalize wc.heap.size = g0 at *
        generalize w2.heap.size = gR at *
        go_loopw [13] (fun i wr => ∃ (j : Nat) (F : Nat → Int), j ≤ k ∧ i = .int .i64 j ∧ Row wr gR k F ∧ Row wr g0 k N ∧ Row wr w.heap.size k N ∧ Below w.heap.size w wr) (fun i _ => k - (intOf i).toNat)
        case atStart => exact ⟨0, _, Nat.zero_le _, rfl, rR, r0, rN2, B3⟩
        case round =>
          clear rR r0 rN2 B3
          obtain ⟨j, F, hj, rfl, rR, r0, rN2, B3⟩ := hrel
          by_cases hlt : j < k
          · have c1 := rR.num j hlt
            have f1' := rR.frozen j
            have s1 := rR.set j junk
            have ts := touch_setCell (fun k => k = gR) wr ⟨gR, j, none⟩ (.int .u64 junk) rfl
            have s2 := ts.row r0 (by omega)
            have s3 := ts.row rN2 (by omega)
            have s4 : Below w.heap.size w _ := B3.setCell (p := ⟨gR, j, none⟩) (by show w.heap.size ≤ gR; omega) (.int .u64 junk)
            clear ts rR r0 rN2 B3
            go_wp2
            go_roundw
            case rel => exact ⟨j + 1, _, by omega, by go_num, s1, s2, s3, s4⟩
            case measure => simp [intOf]; omega
          · have hge : k ≤ j := by omega
            clear hlt
            have hlR := rR.lt
            have HV1 : ValsB w.heap.size wr a1 n f1 := v1.below B3
            obtain ⟨p, hp, hpn, hpz⟩ := last_nonzero hNn.out
            obtain ⟨T, hT, hT0, hT1⟩ := first_nonzero (decAt N p) k
            have ta := touch_alloc (fun _ => False) wr (.cells #[.slice a1 n cap1, .int .i64 ((0 : Nat) : Int)] 27)
            have hS : Src (wr.alloc (.cells #[.slice a1 n cap1, .int .i64 ((0 : Nat) : Int)] 27)) wr.heap.size a1 n cap1 0 := heap_alloc_new wr _
            have hU := uniform_any w.heap.size w.heap.size gR wr.heap.size k p T n cap1 a1 N F f1 _ hd hp hpn hpz hNb.out hT hT0 hT1 (ta.row rN2 (by simp)) (ta.row rR (by simp)) hS (HV1.below (ta.below (by omega) (by simp))) hn (by simp; omega) (Nat.le_refl _) (by omega) (by omega) (by omega) (by omega) (by omega)
            have HU := hid hU
            have HT0 := hid hT0
            have HT1 := hid hT1
            have HPZ := hid hpz
            have HPN := hid hpn
            clear hU hT0 hT1 hpz hpn hS v1
            go_wp2_with fail
            refine HU.out.mono ?_
            rintro e wu ⟨rfl, tu, hu⟩
            have hout : ∃ (E : Nat → Int) (K : Nat), Row wu gR k E ∧ Src wu wr.heap.size a1 n cap1 K ∧ Hid (Out f1 N n T k p E K) := by
              rcases hu with ⟨e1, e2, e3⟩ | ⟨e1, q, e2, e3, e4⟩
              · exact ⟨_, _, e2, e3, .inl ⟨e1, rfl, fun i hi => HT0.out i (by omega)⟩⟩
              · exact ⟨_, _, e3, e4, .inr ⟨e1, q, e2, rfl, fun i _ => rfl⟩⟩
            obtain ⟨E, K, rE, sK, hO⟩ := hout
            have rN3 := tu.row (ta.row rN2 (by simp)) (by omega)
            have r03 := tu.row (ta.row r0 (by simp)) (by omega)
            have B4 : Below w.heap.size w wu := (B3.trans (ta.below (by omega) (by simp))).trans (tu.below (by simp; omega) (by intro k hk; omega))
            have HV2 : ValsB w.heap.size wu a1 n f1 := (HV1.below (ta.below (by omega) (by simp))).below (tu.below (by simp; omega) (by intro k hk; omega))
            have lS := sK.lt
            have lR := rE.lt
            clear hu HU tu ta rN2 r0 rR B3 HV1
            generalize wr.heap.size = gS at *
            go_wp2_with (first
              | (at_make; refine wpList_make_full _ rfl (.tmp 80) (.tmp 80) 22 rfl w.heap.size 23 i23 (.int .u64 0) 1 Yba.underlying22 hi hz0 hz1 _ _ _ _ k rfl rfl rfl rfl (by rw [hz2]; omega) (by unfold maxLen; omega) (by omega) ?_; intro wm hown0 hgrow0; have r03m := (touch_of_grown hgrow0).row r03 (by simp); obtain ⟨w4, hcp, r4, t4⟩ := copy_run wm 22 22 3 Yba.underlying22 wu.heap.size k k (some ⟨g0, 0, none⟩) (fun _ => 0) N (row_of_made hown0) r03m.vals hd0))
            have b4 : Below wu.heap.size wu w4 := ((touch_of_grown hgrow0).below (Nat.le_refl _) (by simp)).trans (t4.below hgrow0.size (by intro k hk; omega))
            clear hcp hown0 hgrow0 r03m t4
            clear hge
            go_loopw [16] (fun i wx => ∃ m : Nat, p ≤ m ∧ m < k ∧ i = .int .i64 m ∧ Row wx wu.heap.size k (decTo N (m + 1)) ∧ Below wu.heap.size wu wx) (fun i _ => (intOf i).toNat)
            case atStart => exact ⟨k - 1, by omega, by omega, by congr 1; omega, r4.congr (fun i hi => by unfold decTo; rw [if_pos (by omega)]), b4⟩
            case round =>
              clear r4 b4
              obtain ⟨m, hm1, hm2, rfl, rr, br⟩ := hrel
              have fr := rr.frozen m
              by_cases hmp : m = p
              · subst hmp
                have c1 : wr.cell? ⟨wu.heap.size, m, none⟩ = some (.int .u64 (N m)) := by rw [rr.num m hm2]; unfold decTo; rw [if_pos (by omega)]
                have hb := hNb.out m
                have hb1 : 1 ≤ N m := by have := HPN.out; omega
                have hne : (N m != 0) = true := by simp; omega
                have r5 := rr.set m (N m - 1)
                rw [decTo_end] at r5
                have b5 : Below wu.heap.size wu _ := br.setCell (p := ⟨wu.heap.size, m, none⟩) (Nat.le_refl _) (.int .u64 (N m - 1))
                clear rr br
                go_wp2
                clear c1 fr hne
                generalize wr.setCell ⟨wu.heap.size, m, none⟩ (.int .u64 (N m - 1)) = w5 at *
                have l5 := r5.lt
                go_loop [17] (fun i => ∃ t : Nat, t ≤ T ∧ i = .int .i64 t) (fun i => T - (intOf i).toNat)
                case atStart => exact ⟨0, Nat.zero_le _, rfl⟩
                case round =>
                  obtain ⟨t, ht, rfl⟩ := hrel
                  by_cases hlt : t < T
                  · have hkd : t < k := by omega
                    have c1 : w5.cell? ⟨wu.heap.size, t, none⟩ = some (.int .u64 0) := by rw [r5.num t hkd, HT0.out t hlt]
                    go_wp2
                    go_round
                    case rel => exact ⟨t + 1, by omega, by go_num⟩
                    case measure => simp [intOf]; omega
                  · have hkT : t = T := by omega
                    subst hkT
                    clear hlt ht
                    have hsz5 := b5.size
                    by_cases hkd : t < k
                    · have c1 : w5.cell? ⟨wu.heap.size, t, none⟩ = some (.int .u64 (decAt N m t)) := r5.num t hkd
                      have hx : 0 ≤ decAt N m t ∧ decAt N m t ≤ 18446744073709551615 := by
                        unfold decAt maxU
                        have := hNb.out t
                        split
                        · exact this
                        · split <;> omega
                      have hne : (decAt N m t == 0) = false := by simpa using HT1.out hkd
                      have hL : Lib.bitLen (decAt N m t).toNat ≤ 64 := bitLen_64 _ hx.1 hx.2
                      have lz := fun W => Yba.bits_Len64 (decAt N m t) W hx.1 hx.2
                      generalize hxe : decAt N m t = x at *
                      have HX := hid hxe
                      clear hxe
                      generalize hLe : Lib.bitLen x.toNat = L at *
                      have HL := hid hLe
                      clear hLe
                      go_wp2_with (first
                        | (at_make; refine wpList_make_full _ rfl (.tmp 117) (.tmp 117) 22 rfl w.heap.size 23 i23 (.int .u64 0) 1 Yba.underlying22 hi hz0 hz1 _ _ _ _ k rfl rfl rfl rfl (by rw [hz2]; omega) (by unfold maxLen; omega) (by omega) ?_; intro w6 hown6 hgrow6; have c6 := (touch_of_grown hgrow6).row r5 (by simp); have c1' : w6.cell? ⟨wu.heap.size, t, none⟩ = some (.int .u64 x) := (by rw [c6.num t hkd, HX.out]); have hs6 := hgrow6.size)
                        | (go_at_call 7; refine (lz _).mono ?_; rintro e w' ⟨rfl, rfl⟩)
                        | (at_make; refine wpList_make_full _ rfl (.tmp 129) (.tmp 129) 22 rfl w.heap.size 23 i23 (.int .u64 0) 1 Yba.underlying22 hi hz0 hz1 _ _ _ _ k rfl rfl rfl rfl (by rw [hz2]; omega) (by unfold maxLen; omega) (by omega) ?_; intro w7 hown7 hgrow7))
                      have tt7 := touch_of_grown hgrow7
                      have r6 := row_of_made hown6
                      have rX := tt7.row r6 (by simp)
                      have rC := row_of_made hown7
                      have l6 := r6.lt
                      have l7 := rC.lt
                      have b7 : Below wu.heap.size wu w7 := (b5.trans ((touch_of_grown hgrow6).below (by omega) (by simp))).trans (tt7.below (by omega) (by simp))
                      have rN7 := rN3.below b7 (by omega)
                      have r07 := r03.below b7 (by omega)
                      have rR7 := rE.below b7 (by omega)
                      have sK7 := sK.below b7 (by omega)
                      have HV7 := HV2.of_below b7 (by omega)
                      have B7 : Below w.heap.size w w7 := B4.trans (b7.mono (by omega))
                      have hmk := maskOf_bd L
                      have hMk : (18446744073709551615 : Int) / 2 ^ (64 - L) = maskOf L := rfl
                      rw [hMk]
                      generalize hme : maskOf L = mk at *
                      have HM := hid hme
                      clear hMk hme lz hown6 hown7 hgrow6 hgrow7 tt7 r6 c6 c1' c1 b7 rN3 r03 rE sK HV2 B4 r5 b5 hne
                      generalize w'.heap.size = gC at *
                      generalize w5.heap.size = gE at *
                      generalize wu.heap.size = gM at *
                      go_loopg [22, 23] (n + 1) (fun g s22 _ wx => ∃ (q pos : Nat) (C : Nat → Int), g = n + 1 - q ∧ s22 = .int .i64 pos ∧ Hid (pos = q * (k - t)) ∧ Hid (∀ r, r < q → lexFrom (cand f1 n t mk (r * (k - t))) N k k = false) ∧ Hid (∀ i, i < t → C i = 0) ∧ Row wx gC k C ∧ Below gC w7 wx)
                      case atStart => exact ⟨0, 0, _, rfl, rfl, by simp [Hid], fun r hr => absurd hr (Nat.not_lt_zero _), fun i _ => rfl, rC, Below.refl _ _⟩
                      case round =>
                        clear rC
                        obtain ⟨q, pos, C, hg, rfl, hpos, hqs, hC0, rC, bx⟩ := hrel
                        have hqn : q ≤ n := tries_le hkd hmk.1 hmk.2 (fun i => (hNb.out i).1) hm2 HPN.out hqs.out
                        have hps : pos ≤ 4096 * 256 := by rw [hpos.out]; exact Nat.mul_le_mul (by omega) (by omega)
                        have hat := at_any a1 n cap1 pos f1 wr (HV7.of_below bx (by omega)).vals hn
                        have cC := rC.num t hkd
                        have fC := rC.frozen t
                        go_wp2_with (go_at_call 8; refine hat.mono ?_; rintro e w' ⟨rfl, hw'⟩; subst hw')
                        have r4 := rC.set t (bits BinOp.and IntKind.u64 (ansAt f1 n pos) mk)
                        have b4 : Below gC w7 _ := bx.setCell (p := ⟨gC, t, none⟩) (Nat.le_refl _) (.int .u64 (bits BinOp.and IntKind.u64 (ansAt f1 n pos) mk))
                        have F4 : ∀ i, i < t + 1 → upd C t (bits BinOp.and IntKind.u64 (ansAt f1 n pos) mk) i = cand f1 n t mk pos i := by
                          intro i hi
                          unfold upd cand
                          by_cases e : i = t
                          · rw [if_pos e, if_neg (by omega), if_pos e]
                          · rw [if_neg e, if_pos (by omega), hC0.out i (by omega)]
                        have H4 := hid F4
                        clear F4 hC0 cC fC hat rC bx
                        generalize upd C t (bits BinOp.and IntKind.u64 (ansAt f1 n pos) mk) = C4 at *
                        generalize wr.setCell ⟨gC, t, none⟩ (.int .u64 (bits BinOp.and IntKind.u64 (ansAt f1 n pos) mk)) = w8 at *
                        go_loopw [23] (fun i wx => ∃ (z : Nat) (F : Nat → Int), t + 1 ≤ z ∧ z ≤ k ∧ i = .int .i64 z ∧ Hid (∀ i, i < z → F i = cand f1 n t mk pos i) ∧ Row wx gC k F ∧ Below gC w7 wx) (fun i _ => k - (intOf i).toNat)
                        case atStart => exact ⟨t + 1, C4, by omega, by omega, by go_num, H4, r4, b4⟩
                        case round =>
                          clear r4 b4 H4
                          obtain ⟨z, F, hz1', hz2', rfl, hF, rC, bx⟩ := hrel
                          by_cases hlt : z < k
                          · have hat := at_any a1 n cap1 (pos + (z - t)) f1 wr (HV7.of_below bx (by omega)).vals hn
                            rw [show ((pos + (z - t) : Nat) : Int) = (pos : Int) + (z : Int) - (t : Int) by omega] at hat
                            have cC := rC.num z hlt
                            have fC := rC.frozen z
                            go_wp2_with (go_at_call 8; refine hat.mono ?_; rintro e w' ⟨rfl, hw'⟩; subst hw')
                            have r4 := rC.set z (ansAt f1 n (pos + (z - t)))
                            have b4 : Below gC w7 _ := bx.setCell (p := ⟨gC, z, none⟩) (Nat.le_refl _) (.int .u64 (ansAt f1 n (pos + (z - t))))
                            have F4 : ∀ i, i < z + 1 → upd F z (ansAt f1 n (pos + (z - t))) i = cand f1 n t mk pos i := by
                              intro i hi
                              unfold upd
                              by_cases e : i = z
                              · rw [if_pos e, e]; unfold cand; rw [if_neg (by omega), if_neg (by omega)]
                              · rw [if_neg e, hF.out i (by omega)]
                            have H4 := hid F4
                            clear F4 rC bx cC fC hat hF
                            go_roundw
                            case rel => exact ⟨z + 1, _, by omega, by omega, by go_num, H4, r4, b4⟩
                            case measure => simp [intOf]; omega
                          · have hzk : z = k := by omega
                            clear hlt
                            have hF' : ∀ i, i < k → F i = cand f1 n t mk pos i := fun i hi => hF.out i (by omega)
                            have rC2 := rC.congr hF'
                            have r08 := r07.below bx (by omega)
                            have hbe := below_any gC g0 k F N wr rC.num r08.num hd
                            rw [lex_congr (g := N) hF' k (Nat.le_refl _)] at hbe
                            clear hF hF' rC
                            cases hb : lexFrom (cand f1 n t mk pos) N k k with
                            | false =>
                              rw [hb] at hbe
                              go_wp2_with (go_at_call 9; refine hbe.mono ?_; rintro e w9 ⟨rfl, h9⟩)
                              go_roundg (n + 1 - (q + 1))
                              case measure => omega
                              case rel =>
                                refine ⟨q + 1, pos + (k - t), cand f1 n t mk pos, rfl, by go_num, ?_, ?_, ?_, h9.row rC2, bx.trans (h9.below _)⟩
                                · show _ = _
                                  rw [hpos.out, Nat.add_mul, Nat.one_mul]
                                · intro r hr
                                  by_cases e : r = q
                                  · rw [e, ← hpos.out]; exact hb
                                  · exact hqs.out r (by omega)
                                · intro i hi
                                  unfold cand
                                  rw [if_pos hi]
                            | true =>
                              rw [hb] at hbe
                              go_wp2_with (first | (go_at_call 9; refine hbe.mono ?_; rintro e w9 ⟨rfl, h9⟩; have rC9 := h9.row rC2; have rX9 := h9.row (rX.below bx (by omega)); have b9 := bx.trans (h9.below _); obtain ⟨wz, hcp, rZ, tz⟩ := copy_run w9 22 22 3 Yba.underlying22 gE k k (some ⟨gC, 0, none⟩) _ _ rX9 rC9.vals hd0))
                              clear hcp
                              have hsz9 := b9.size
                              have bz : Below gE w7 wz := (b9.mono (by omega)).trans (tz.below (by omega) (by intro k hk; omega))
                              have rNz := rN7.below bz (by omega)
                              have r0z := r07.below bz (by omega)
                              have rRz := rR7.below bz (by omega)
                              have sKz := sK7.below bz (by omega)
                              have Bz : Below w.heap.size w wz := B7.trans (bz.mono (by omega))
                              have hOut : Out f1 N n t k m (cand f1 n t mk pos) (pos + (k - t)) := by
                                refine .inr ⟨hkd, q, ?_⟩
                                rw [HX.out, HL.out, HM.out, ← hpos.out]
                                exact ⟨⟨hqs.out, by rw [← hpos.out]; exact hb⟩, rfl, fun i _ => rfl⟩
                              have hun := hO.out.unique hOut
                              refine (same_any gR gE k E (cand f1 n t mk pos) wz rRz.num rZ.num hd hun.2).mono ?_
                              rintro e wy ⟨rfl, hy⟩
                              have cK := (hy.src sKz).c1
                              rw [show ((K : Nat) : Int) = (pos : Int) + ((k : Int) - (t : Int)) by have := hun.1; omega] at cK
                              have hs2 := same_any w.heap.size g0 k N N wy (hy.row rNz).num (hy.row r0z).num hd (fun i _ => rfl)
                              have HB := hid (Bz.trans (hy.below _))
                              clear hOut hun hO Bz hy sKz rRz r0z rNz bz tz rZ rX9 rC9 b9 h9 hbe r08 rC2 bx sK7 rR7 r07 rN7 HV7 B7 rX
                              go_wp2_with (go_at_call 10; refine hs2.mono ?_; rintro e wx ⟨rfl, hx2⟩)
                              go_ret
                              exact ⟨rfl, HB.out.trans (hx2.below _)⟩
                    · have hkd1 : ¬ (t : Int) < (k : Int) := by omega
                      have hkd2 : t = k := by omega
                      have HK := hid hkd2
                      clear hkd2 hkd
                      go_wp2_with (at_make; refine wpList_make_full _ rfl (.tmp 117) (.tmp 117) 22 rfl w.heap.size 23 i23 (.int .u64 0) 1 Yba.underlying22 hi hz0 hz1 _ _ _ _ k rfl rfl rfl rfl (by rw [hz2]; omega) (by unfold maxLen; omega) (by omega) ?_; intro w6 hown6 hgrow6)
                      have r6 := row_of_made hown6
                      have b6 : Below wu.heap.size wu w6 := b5.trans ((touch_of_grown hgrow6).below (by omega) (by simp))
                      have rNz := rN3.below b6 (by omega)
                      have r0z := r03.below b6 (by omega)
                      have rRz := rE.below b6 (by omega)
                      have sKz := sK.below b6 (by omega)
                      have Bz : Below w.heap.size w w6 := B4.trans (b6.mono (by omega))
                      have hOut : Out f1 N n t k m (fun _ => 0) 0 := .inl ⟨HK.out, rfl, fun _ _ => rfl⟩
                      have hun := hO.out.unique hOut
                      refine (same_any gR w5.heap.size k E (fun _ => 0) w6 rRz.num r6.num hd hun.2).mono ?_
                      rintro e wy ⟨rfl, hy⟩
                      have cK := (hy.src sKz).c1
                      rw [show ((K : Nat) : Int) = 0 by have := hun.1; omega] at cK
                      have hs2 := same_any w.heap.size g0 k N N wy (hy.row rNz).num (hy.row r0z).num hd (fun i _ => rfl)
                      have HB := hid (Bz.trans (hy.below _))
                      clear hOut hun hO Bz hy sKz rRz r0z rNz b6 hown6 hgrow6 r6
                      go_wp2_with (go_at_call 10; refine hs2.mono ?_; rintro e wx ⟨rfl, hx2⟩)
                      go_ret
                      exact ⟨rfl, HB.out.trans (hx2.below _)⟩
              · have c1 : wr.cell? ⟨wu.heap.size, m, none⟩ = some (.int .u64 0) := by rw [rr.num m hm2]; unfold decTo; rw [if_pos (by omega), HPZ.out m (by omega) hm2]
                have r2 := rr.set m maxU
                obtain ⟨m', rfl⟩ : ∃ m', m = m' + 1 := ⟨m - 1, by omega⟩
                rw [decTo_step] at r2
                have b5 : Below wu.heap.size wu _ := br.setCell (p := ⟨wu.heap.size, m' + 1, none⟩) (Nat.le_refl _) (.int .u64 maxU)
                clear rr br
                go_wp2
                go_roundw
                case rel => exact ⟨m', by omega, by omega, by go_num, r2, b5⟩
                case measure => simp [intOf]
end Go.Proofs.Ybulkfkm
