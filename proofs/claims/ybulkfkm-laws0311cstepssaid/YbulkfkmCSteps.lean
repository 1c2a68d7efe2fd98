import Derived.Test.YbulkfkmCBound
namespace Go.Proofs.Ybulkfkm
open Go.RowKit
set_option linter.unusedVariables false

theorem Yba.info2 : (Yba.prog.info? 2).map (fun i => (i.zero, i.size, i.bytes)) = some (some (.int .i64 0), 1, 8) := by kernel_rfl

/-- A row of integers that the call itself has made. -/
def IRow (w : World) (base : Nat) (e : TypeId) (k : IntKind) (g n : Nat) (zs : List Int) : Prop :=
  zs.length = n ∧ w.ownsRow base e 1 (.slice (some ⟨g, 0, none⟩) n n) n (zs.map (Value.int k))

theorem IRow.made {w : World} {base : Nat} {e : TypeId} {k : IntKind} {g n : Nat} (h : w.ownsRow base e 1 (.slice (some ⟨g, 0, none⟩) n n) n (madeCells (Value.int k 0).cells (n * 1)).toList) : IRow w base e k g n (List.replicate n 0) := by
  refine ⟨by simp, ?_⟩
  have e1 : (madeCells (Value.int k 0).cells (n * 1)).toList = (List.replicate n 0).map (Value.int k) := by
    rw [Nat.mul_one, show (Value.int k 0).cells = #[.int k 0] from rfl, toList_madeCells_one, List.map_replicate]
  rwa [e1] at h

theorem IRow.kept {w w' : World} {base : Nat} {e : TypeId} {k : IntKind} {g n : Nat} {zs : List Int} {row : Option Nat} (h : IRow w base e k g n zs) (hg : w.grownBy w' row) (hne : some g ≠ row) : IRow w' base e k g n zs :=
  ⟨h.1, h.2.kept hg (.inr (by simpa [Value.ownBlock] using hne))⟩

theorem IRow.lt {w : World} {base : Nat} {e : TypeId} {k : IntKind} {g n : Nat} {zs : List Int} (h : IRow w base e k g n zs) : base ≤ g ∧ g < w.heap.size := h.2.lt g rfl

theorem IRow.cell {w : World} {base : Nat} {e : TypeId} {k : IntKind} {g n : Nat} {zs : List Int} (h : IRow w base e k g n zs) (i : Nat) (hi : i < n) : w.cell? ⟨g, i, none⟩ = some (.int k (zs.getD i 0)) := by
  rw [h.2.cellAt i (by omega)]
  have := h.1
  simp [List.getD, show i < zs.length by omega]

theorem IRow.frozen {w : World} {base : Nat} {e : TypeId} {k : IntKind} {g n : Nat} {zs : List Int} (h : IRow w base e k g n zs) (i : Nat) : w.frozen? ⟨g, i, none⟩ = false := h.2.frozenAt i

theorem IRow.set {w : World} {base : Nat} {e : TypeId} {k : IntKind} {g n : Nat} {zs : List Int} (h : IRow w base e k g n zs) (i : Nat) (x : Int) :
    IRow (w.setCell ⟨g, i, none⟩ (.int k x)) base e k g n (zs.set i x) ∧ w.grownBy (w.setCell ⟨g, i, none⟩ (.int k x)) (some g) := by
  obtain ⟨h1, h2⟩ := h.2.stored i (.int k x)
  exact ⟨⟨by simpa using h.1, by rw [List.map_set]; exact h1⟩, h2⟩

theorem IRow.pick {w : World} {base : Nat} {e1 e2 : TypeId} {k : IntKind} {g n g' n' : Nat} {ns zs : List Int} (h : IRow w base e1 k g n ns) (h' : IRow w base e2 .i64 g' n' zs) (hn : n < n') (hr : ∀ i, i < n → ns.getD i 0 = (i : Int)) :
    Pick w.heap.size w k g n (some ⟨g', 0, none⟩) n' (fun i => zs.getD i 0) := by
  intro i hi
  refine ⟨h.lt.2, i, by omega, ?_, g', 0, rfl, h'.lt.2, ?_⟩
  · rw [h.cell i hi, hr i hi]
  · rw [Nat.zero_add]; exact h'.cell i (by omega)

theorem ramp_set {zs : List Int} {n k : Nat} (hl : zs.length = n) (h : ∀ i, i < k → zs.getD i 0 = (i : Int)) (hk : k < n) : ∀ i, i < k + 1 → (zs.set k (k : Int)).getD i 0 = (i : Int) := by
  intro i hi
  by_cases e : i = k
  · subst e; simp [List.getD, hl, hk]
  · have := h i (by omega)
    rw [← this]; simp [List.getD, show ¬ k = i by omega]

set_option maxHeartbeats 1000000 in
set_option maxRecDepth 100000 in
theorem steps_core (a0 a1 s fill : Int) (q t : Nat) (w : World) (h0 : 0 ≤ a0 ∧ a0 ≤ 65535) (h1 : 0 ≤ a1 ∧ a1 ≤ 65535) (hq : a0.tmod 300 = (q : Int)) (ht : a1.tmod 300 = (t : Int)) (bq : q < 300) (bt : t < 300) :
    Calls Yba.prog 5 #[.int .u16 a0, .int .u16 a1, .int .i64 s, .int .i64 fill] w fun e w' => e = .returned (.bool true) ∧ Below w.heap.size w w' := by
  obtain ⟨i21, hi, hz0, hz1, hz2⟩ := info_parts Yba.info21
  obtain ⟨i3, gi, gz0, gz1, gz2⟩ := info_parts Yba.info3
  obtain ⟨i2, ki, kz0, kz1, kz2⟩ := info_parts Yba.info2
  go_enter Yba.func5, Yba.ntmps5
  go_wp2_with (first
    | (at_make; refine wpList_make_full _ rfl (.tmp 29) (.tmp 29) 33 rfl w.heap.size 2 i2 (.int .i64 0) 1 Yba.underlying33 ki kz0 kz1 _ _ _ _ (q + 1) rfl rfl (by omega) (by omega) (by rw [kz2]; omega) (by unfold maxLen; omega) (by simp) ?_; intro wa hown0 hgrow0)
    | (at_make; refine wpList_make_full _ rfl (.tmp 32) (.tmp 32) 33 rfl w.heap.size 2 i2 (.int .i64 0) 1 Yba.underlying33 ki kz0 kz1 _ _ _ _ (t + 1) rfl rfl (by omega) (by omega) (by rw [kz2]; omega) (by unfold maxLen; omega) (by have := hgrow0.size; omega) ?_; intro wb hown1 hgrow1))
  have R0 := IRow.made hown0
  have L0 := R0.lt
  have B0 : Below w.heap.size w wa := (Below.refl _ _).grown hgrow0 (Nat.le_refl _) (by simp)
  have R1 := IRow.made hown1
  have L1 := R1.lt
  replace R0 := R0.kept hgrow1 (by simp)
  replace B0 : Below w.heap.size w wb := B0.grown hgrow1 (by omega) (by simp)
  clear hown0 hgrow0 hown1 hgrow1 kz0 kz2
  generalize List.replicate (q + 1) (0 : Int) = y0 at R0
  generalize List.replicate (t + 1) (0 : Int) = y1 at R1
  generalize wa.heap.size = g1 at *
  go_loopw [36] (fun i wr => ∃ (k : Nat) (zs : List Int), k ≤ q + 1 ∧ i = .int .i64 k ∧ IRow wr w.heap.size 2 .i64 w.heap.size (q + 1) zs ∧ IRow wr w.heap.size 2 .i64 g1 (t + 1) y1 ∧ Below w.heap.size w wr) (fun i _ => q + 1 - (intOf i).toNat)
  case atStart => exact ⟨0, y0, Nat.zero_le _, rfl, R0, R1, B0⟩
  case round =>
    clear R0 R1 B0 L1
    obtain ⟨k, zs, hk, rfl, R0, R1, B0⟩ := hrel
    by_cases hlt : k < q + 1
    · have c0 := R0.cell k hlt
      have c1 := R0.frozen k
      obtain ⟨S0, S1⟩ := R0.set k fill
      have S2 := R1.kept S1 (by simp; omega)
      have S3 : Below w.heap.size w _ := B0.setCell (p := ⟨w.heap.size, k, none⟩) (Nat.le_refl _) (.int .i64 fill)
      clear S1 R0 R1 B0
      go_wp2
      go_roundw
      case rel => exact ⟨k + 1, _, by omega, by go_num, S0, S2, S3⟩
      case measure => simp [intOf]; omega
    · go_wp2
      clear hlt
      go_loopw [46] (fun i wr => ∃ (k : Nat) (xs : List Int), k ≤ t + 1 ∧ i = .int .i64 k ∧ IRow wr w.heap.size 2 .i64 w.heap.size (q + 1) zs ∧ IRow wr w.heap.size 2 .i64 g1 (t + 1) xs ∧ Below w.heap.size w wr) (fun i _ => t + 1 - (intOf i).toNat)
      case atStart => exact ⟨0, y1, Nat.zero_le _, rfl, R0, R1, B0⟩
      case round =>
        clear R0 R1 B0
        obtain ⟨m, xs, hm, rfl, R0, R1, B0⟩ := hrel
        by_cases hlt : m < t + 1
        · have c0 := R1.cell m hlt
          have c1 := R1.frozen m
          obtain ⟨S0, S1⟩ := R1.set m (wrap64 (-fill))
          have S2 := R0.kept S1 (by simp; omega)
          have S3 : Below w.heap.size w _ := B0.setCell (p := ⟨g1, m, none⟩) (by exact R1.lt.1) (.int .i64 (wrap64 (-fill)))
          clear S1 R0 R1 B0
          go_wp2
          go_roundw
          case rel => exact ⟨m + 1, _, by omega, by go_num, S2, S0, S3⟩
          case measure => simp [intOf]; omega
        · have L1 := R1.lt
          go_wp2_with (at_make; refine wpList_make_full _ rfl (.tmp 55) (.tmp 55) 35 rfl w.heap.size 21 i21 (.int .i32 0) 1 Yba.underlying35 hi hz0 hz1 _ _ _ _ q rfl rfl rfl rfl (by rw [hz2]; omega) (by unfold maxLen; omega) (by omega) ?_; intro wa2 hown0 hgrow0)
          have R2 := IRow.made hown0
          have L2 := R2.lt
          replace R0 := R0.kept hgrow0 (by simp)
          replace R1 := R1.kept hgrow0 (by simp)
          replace B0 : Below w.heap.size w wa2 := B0.grown hgrow0 (by omega) (by simp)
          clear hown0 hgrow0 hz0 hz2 hlt
          generalize List.replicate q (0 : Int) = y2 at R2
          generalize wr.heap.size = g2 at *
          go_loopw [59] (fun i wr => ∃ (k : Nat) (ns : List Int), k ≤ q ∧ i = .int .i64 k ∧ (∀ i, i < k → ns.getD i 0 = (i : Int)) ∧ IRow wr w.heap.size 21 .i32 g2 q ns ∧ IRow wr w.heap.size 2 .i64 w.heap.size (q + 1) zs ∧ IRow wr w.heap.size 2 .i64 g1 (t + 1) xs ∧ Below w.heap.size w wr) (fun i _ => q - (intOf i).toNat)
          case atStart => exact ⟨0, y2, Nat.zero_le _, rfl, fun i hi => by omega, R2, R0, R1, B0⟩
          case round =>
            clear R0 R1 R2 B0
            obtain ⟨k2, ns, hk2, rfl, hns, R2, R0, R1, B0⟩ := hrel
            by_cases hlt : k2 < q
            · have c0 := R2.cell k2 hlt
              have c1 := R2.frozen k2
              obtain ⟨S0, S1⟩ := R2.set k2 (k2 : Int)
              have S2 := R0.kept S1 (by simp; omega)
              have S4 := R1.kept S1 (by simp; omega)
              have S3 : Below w.heap.size w _ := B0.setCell (p := ⟨g2, k2, none⟩) (by exact R2.lt.1) (.int .i32 (k2 : Int))
              have S5 := ramp_set R2.1 hns hlt
              have H5 : Hid _ := S5
              clear S1 S5 R0 R1 R2 B0 hns
              go_wp2
              go_roundw
              case rel => exact ⟨k2 + 1, _, by omega, by go_num, H5.out, S0, S2, S4, S3⟩
              case measure => simp [intOf]; omega
            · have hkq : k2 = q := by omega
              subst hkq
              have Hn : Hid _ := hns
              clear hns hlt
              have L3 := R2.lt
              go_wp2_with (at_make; refine wpList_make_full _ rfl (.tmp 68) (.tmp 68) 37 rfl w.heap.size 3 i3 (.int .i64 0) 1 Yba.underlying37 gi gz0 gz1 _ _ _ _ t rfl rfl rfl rfl (by rw [gz2]; omega) (by unfold maxLen; omega) (by omega) ?_; intro wa3 hown0 hgrow0)
              have R3 := IRow.made hown0
              have L4 := R3.lt
              replace R0 := R0.kept hgrow0 (by simp)
              replace R1 := R1.kept hgrow0 (by simp)
              replace R2 := R2.kept hgrow0 (by simp)
              replace B0 : Below w.heap.size w wa3 := B0.grown hgrow0 (by omega) (by simp)
              clear hown0 hgrow0 gz0 gz2
              generalize List.replicate t (0 : Int) = y3 at R3
              generalize wr.heap.size = g3 at *
              go_loopw [72] (fun i wr => ∃ (k : Nat) (ms : List Int), k ≤ t ∧ i = .int .i64 k ∧ (∀ i, i < k → ms.getD i 0 = (i : Int)) ∧ IRow wr w.heap.size 3 .i64 g3 t ms ∧ IRow wr w.heap.size 21 .i32 g2 k2 ns ∧ IRow wr w.heap.size 2 .i64 w.heap.size (k2 + 1) zs ∧ IRow wr w.heap.size 2 .i64 g1 (t + 1) xs ∧ Below w.heap.size w wr) (fun i _ => t - (intOf i).toNat)
              case atStart => exact ⟨0, y3, Nat.zero_le _, rfl, fun i hi => by omega, R3, R2, R0, R1, B0⟩
              case round =>
                clear R0 R1 R2 R3 B0
                obtain ⟨k3, ms, hk3, rfl, hms, R3, R2, R0, R1, B0⟩ := hrel
                by_cases hlt : k3 < t
                · have c0 := R3.cell k3 hlt
                  have c1 := R3.frozen k3
                  obtain ⟨S0, S1⟩ := R3.set k3 (k3 : Int)
                  have S2 := R0.kept S1 (by simp; omega)
                  have S4 := R1.kept S1 (by simp; omega)
                  have S6 := R2.kept S1 (by simp; omega)
                  have S3 : Below w.heap.size w _ := B0.setCell (p := ⟨g3, k3, none⟩) (by exact R3.lt.1) (.int .i64 (k3 : Int))
                  have S5 := ramp_set R3.1 hms hlt
                  have H5 : Hid _ := S5
                  clear S1 S5 R0 R1 R2 R3 B0 hms
                  go_wp2
                  go_roundw
                  case rel => exact ⟨k3 + 1, _, by omega, by go_num, H5.out, S0, S6, S2, S4, S3⟩
                  case measure => simp [intOf]; omega
                · have hkt : k3 = t := by omega
                  subst hkt
                  have Hm : Hid _ := hms
                  clear hms hlt
                  have P1 := R2.pick R0 (by omega) Hn.out
                  have P2 := R3.pick R1 (by omega) Hm.out
                  have hsz3 := B0.size
                  generalize (fun i => zs.getD i 0) = cz at P1
                  generalize (fun i => xs.getD i 0) = oz at P2
                  clear R0 R1 R2 R3 Hn Hm L0 L1 L2 L3 L4
                  go_wp2_with fail
                  obtain ⟨t1, t2, t3, t4, t5⟩ := three wr #[.slice none 0 0, .slice (some ⟨w.heap.size, 0, none⟩) (k2 + 1) (k2 + 1), .slice (some ⟨g1, 0, none⟩) (k3 + 1) (k3 + 1), .slice (some ⟨g2, 0, none⟩) k2 k2, .slice none 0 0, .slice none 0 0, .slice none 0 0]
                    #[.int .i64 s, .int .i64 0, .bool false, .chan none, .nilFunc, .int .i64 0] #[.pointer none, .slice none 0 0, .int .i64 0, .nilIface, .slice none 0 0, .slice none 0 0, .slice none 0 0, .slice none 0 0, .slice (some ⟨g3, 0, none⟩) k3 k3, .slice none 0 0, .slice none 0 0, .int .i64 0, .pointer (some ⟨wr.heap.size + 1, 0, none⟩)] 40 45 52
                  have c3 := t1 3
                  have c8 := t3 8
                  refine (bound_own wr.heap.size (wr.heap.size + 1 + 1) (wr.heap.size + 1) (k2 + 1) (k2 + 1) (k3 + 1) (k3 + 1) g2 k2 k2 g3 k3 k3 (some ⟨w.heap.size, 0, none⟩) (some ⟨g1, 0, none⟩) s cz oz _ (by rw [t1]; rfl) (by rw [t1]; rfl) (by rw [t1]; rfl) (by rw [t3]; rfl) (by rw [t3]; rfl) (by rw [t2]; rfl) t4 (P1.below t5).out (P2.below t5).out (by omega) (by omega) (by unfold maxLen; omega) (by unfold maxLen; omega)).mono ?_
                  rintro e w1 ⟨rfl, hs1, hg1⟩
                  have hb1 : Below wr.heap.size wr w1 := t5.grown hg1 (by simp; omega) (by simp)
                  have d3 := hg1.cell (a := ⟨wr.heap.size, 3, none⟩) c3 (by simp)
                  have d8 := hg1.cell (a := ⟨wr.heap.size + 1 + 1, 8, none⟩) c8 (by simp)
                  have HB : Hid (Below w.heap.size w w1) := B0.trans (hb1.mono hsz3)
                  clear hg1 hb1 t1 t2 t3 t4 t5 P1 P2 B0 c3 c8
                  go_wp2
                  go_ret
                  exact ⟨rfl, HB.out⟩
end Go.Proofs.Ybulkfkm
