import Derived.Test.YbulkcnwoRun
namespace Go.Proofs.Ybulkcnwo
open Go.RowKit
theorem info37 : (Yba.prog.info? 37).map (fun i => (i.zero, i.size, i.bytes)) = some (some (.pointer none), 1, 8) := by kernel_rfl
theorem clear25 (w : World) (ty : TypeId) (a : Option Addr) (c : Nat) : (Builtin.clear_ #[25] ty #[.slice a 0 c]).run Yba.prog w = .ok (.tuple #[]) w := by
  cases a <;> simp [Builtin.clear_, run_underlying Yba.underlying25]
theorem Sp0_in (n : Nat) : Sp0.In n := ⟨fun _ h => by simp [Sp0] at h, fun _ h => by simp [Sp0] at h, fun _ h => by simp [Sp0] at h⟩
/-- append of what lies there already. -/
theorem append_again (w : World) (ty : TypeId) (g n cap : Nat) (v : Value) (h1 : v.oneCell' = true) (hn : n < cap) (hc : w.cell? ⟨g, n, none⟩ = some v) (hf : w.frozen? ⟨g, n, none⟩ = false) (b : Nat) (hb : w.cell? ⟨b, 0, none⟩ = some v) :
    (Builtin.append_ #[25, 25] ty #[.slice (some ⟨g, 0, none⟩) n cap, .slice (some ⟨b, 0, none⟩) 1 1]).run Yba.prog w = .ok (.slice (some ⟨g, 0, none⟩) (n + 1) cap) w := by
  obtain ⟨i0, hi, hz0, hz1, hz2⟩ := info_parts info37
  have := run_append_room_cells (P := Yba.prog) w 25 ty 37 i0 Yba.underlying25 hi g 0 n cap ⟨b, 0, none⟩ 1 1 [v] (by rw [hz1]; rfl)
    (by intro j u hu; cases j with
      | zero => simp at hu; subst hu; simpa [Addr.add] using hb
      | succ j => simp at hu) (by simpa using h1) (by omega) (by intro j hj; simp at hj; subst hj; rw [hz1, Nat.zero_add, Nat.mul_one, Nat.add_zero, hc]; rfl) (by intro j hj; simp at hj; subst hj; rw [hz1, Nat.zero_add, Nat.mul_one, Nat.add_zero]; exact hf)
  rw [this, hz1, Nat.zero_add, Nat.mul_one, World.setCells, World.setCells, setCell_self hc]
set_option maxHeartbeats 1000000 in
theorem grow_any (w : World) (L gR n capR : Nat) (bs : Nat → Nat) (rs : Nat → R) (held parked own : Int) (few many spans : Value) (rf : Bool) (hn0 : 0 < n) (hn : n ≤ 300) (hcap : n ≤ capR)
    (hL : LineAt w L ⟨.slice (some ⟨gR, 0, none⟩) n capR, held, parked, own, few, many, spans, rf⟩)
    (hgR : Ty w gR 37) (hrow : ∀ k, k < n → w.cell? ⟨gR, k, none⟩ = some (.pointer (some ⟨bs k, 0, none⟩))) (hfr : ∀ k, w.frozen? ⟨gR, k, none⟩ = false)
    (hR : Routes w n bs rs) (hT : RTy w n bs rs) :
    Calls Yba.prog 13 #[.pointer (some ⟨L, 0, none⟩)] w fun e w' => ∃ v, e = .returned v ∧ ∃ gS size ee sp, size = 2 ^ ee ∧ n < size ∧ size ≤ 4096 ∧ Keep (fun k => k = L) w w' ∧ w.heap.size ≤ gS ∧
      LineAt w' L ⟨.slice (some ⟨gR, 0, none⟩) n capR, held, parked, own, few, many, .slice (some ⟨gS, 0, none⟩) (2 * size) (2 * size), rf⟩ ∧ Spans w' gS (2 * size) bs sp ∧ (∀ k, k < 2 * size → (sp k).In n) ∧ Tree rf n size rs sp := by
  have l0 := hL.cell 0
  have l7 := hL.cell 7
  have l9 := hL.cell 9
  simp only [Hdr.arr] at l0 l7 l9
  have hLlt := hL.ty.lt
  have hlr : L ≠ gR := hL.ty.ne hgR (by decide)
  have hcl := clear25
  have HR := hide hR
  have HT := hide hT
  have HL := hide hL
  have HG := hide hgR
  have HRW := hide hrow
  have HFR := hide hfr
  clear hR hT hL hgR hrow hfr
  go_enter Yba.func13, Yba.ntmps13
  go_wp2_with fail
  go_loopw [2, 24] (fun v i wr => ∃ k : Nat, k ≤ n ∧ i = .int .i64 k ∧ v = .slice (some ⟨gR, 0, none⟩) k capR ∧ Below w.heap.size w wr) (fun _ i _ => n - (intOf i).toNat)
  case atStart => exact ⟨0, Nat.zero_le _, rfl, rfl, Below.refl _ _⟩
  case round =>
    obtain ⟨k, hk, rfl, rfl, hb⟩ := hrel
    by_cases hlt : k < n
    · have hglt := HG.out.lt
      have h1 := (hb.cell (p := ⟨gR, k, none⟩) hglt).trans (HRW.out k hlt)
      obtain ⟨⟨r1, r2, r3, r4, r5, r6, r7, r8, r9⟩, -⟩ := HR.out k hlt
      have h2 := (hb.cell (p := ⟨bs k, 53, none⟩) r1).trans r7
      have h3 := (hb.frozen (p := ⟨bs k, 53, none⟩) r1).trans (r9 53)
      have h4 := (hb.frozen (p := ⟨gR, k, none⟩) hglt).trans (HFR.out k)
      clear r2 r3 r4 r5 r6 r7 r8 r9
      have hgl2 : gR < wr.heap.size := Nat.lt_of_lt_of_le hglt hb.size
      have hs := setCell_self h2
      have HA := hide (append_again (wr.alloc (.cells #[.pointer (some ⟨bs k, 0, none⟩)] 37)) 25 gR k capR (.pointer (some ⟨bs k, 0, none⟩)) rfl (by omega) (by rw [World.cell?_alloc_lt _ _ _ hgl2]; exact h1) (by rw [World.frozen?_alloc_past _ _ _ hgl2]; exact h4) wr.heap.size (by simp [go_sem]))
      go_wp2_with (first | (at_builtin; refine wpList_append_run rfl (.tmp 35) (.tmp 37) 25 25 rfl _ _ rfl rfl HA.out ?_))
      go_roundw
      case rel => exact ⟨k + 1, by omega, by go_num, rfl, hb.alloc hb.size _⟩
      case measure => simp [intOf]; omega
    · obtain rfl : n = k := by omega
      have HLr : Hid (LineAt wr L ⟨.slice (some ⟨gR, 0, none⟩) n capR, held, parked, own, few, many, spans, rf⟩) := (hb.block L hLlt).trans HL.out
      have m0 := HLr.out.cell 0
      have m9 := HLr.out.cell 9
      have f0 := HLr.out.frozen 0
      have f6 := HLr.out.frozen 6
      have m6 := HLr.out.cell 6
      simp only [Hdr.arr] at m0 m9 m6
      have m0' : wr.cell? ⟨L, 0, none⟩ = some (.slice (some ⟨gR, 0, none⟩) n capR) := m0
      have m6' : wr.cell? ⟨L, 6, none⟩ = some spans := m6
      have m9' : wr.cell? ⟨L, 9, none⟩ = some (.bool rf) := m9
      clear m0 m6 m9 l0 l7 l9
      have hs0 := setCell_self m0'
      obtain ⟨AA, hAA⟩ : ∃ AA : Addr, (if capR = n then some (⟨gR, 0, none⟩ : Addr) else some ⟨gR, n, none⟩) = some AA := by split <;> exact ⟨_, rfl⟩
      rename World => W0
      go_wp2_with fail
      go_loopw [5] (fun v wr => ∃ s : Nat, v = .int .i64 s ∧ Hid (∃ e, s = 2 ^ e) ∧ 0 < s ∧ s < 4 * n ∧ wr = W0) (fun v _ => 2 * n - (intOf v).toNat)
      case atStart => exact ⟨1, rfl, ⟨0, rfl⟩, by omega, by omega, rfl⟩
      case round =>
        obtain ⟨s, rfl, HE, hs1, hs2, rfl⟩ := hrel
        by_cases hlt2 : s < 2 * n
        · obtain ⟨s2, hs3⟩ : ∃ s2, s2 = s * 2 := ⟨_, rfl⟩
          have g1 : (s : Int) * 2 = s2 := by omega
          have g2 : IntKind.i64.wrap (s2 : Int) = s2 := by rw [IntKind.wrap_i64]; omega
          have hlt3 : (s : Int) < 2 * n := by omega
          have HS3 := hide hs3
          clear hs3
          go_wp2_with fail
          go_roundw
          case rel =>
            obtain ⟨e, he⟩ := HE.out
            exact ⟨s2, rfl, ⟨e + 1, by rw [HS3.out, he, Nat.pow_succ]⟩, by omega, by omega, by trivial⟩
          case measure => simp [intOf]; omega
        · have hlt3 : ¬ (s : Int) < 2 * n := by omega
          obtain ⟨m2, hm2⟩ : ∃ m2, m2 = 2 * s := ⟨_, rfl⟩
          have g1 : (2 : Int) * s = m2 := by omega
          have g2 : IntKind.i64.wrap (m2 : Int) = m2 := by rw [IntKind.wrap_i64]; omega
          have hLlt2 : L < wr.heap.size := Nat.lt_of_lt_of_le hLlt hb.size
          have HM := hide hm2
          have hm3 : m2 ≤ 100000 := by omega
          clear hm2
          go_wp2_with (at_make; go_must (refine wpList_make_run rfl 30 (.tmp 63) (.tmp 63) rfl (.int .i64 m2) (.int .i64 m2) rfl rfl (make_spans _ m2 hm3) ?_))
          have hzX : (wr.setCell ⟨L, 6, none⟩ (.slice (some ⟨wr.heap.size, 0, none⟩) m2 m2)).heap.size = wr.heap.size := by simp [World.setCell]
          have HL4 : Hid (LineAt ((wr.setCell ⟨L, 6, none⟩ (.slice (some ⟨wr.heap.size, 0, none⟩) m2 m2)).alloc (.cells (madeCells #[.pointer none, .pointer none, .pointer none] (m2 * 3)) 67)) L ⟨.slice (some ⟨gR, 0, none⟩) n capR, held, parked, own, few, many, .slice (some ⟨wr.heap.size, 0, none⟩) m2 m2, rf⟩) :=
            (Below.heap_alloc _ _ _ (by rw [hzX]; exact hLlt2)).trans (LineAt.setSpans (h := ⟨.slice (some ⟨gR, 0, none⟩) n capR, held, parked, own, few, many, spans, rf⟩) HLr.out _)
          have HK4 : Hid (Keep (fun k => k = L) w ((wr.setCell ⟨L, 6, none⟩ (.slice (some ⟨wr.heap.size, 0, none⟩) m2 m2)).alloc (.cells (madeCells #[.pointer none, .pointer none, .pointer none] (m2 * 3)) 67))) :=
            (((Keep.refl (fun k => k = L) w).below hb).setCell (p := ⟨L, 6, none⟩) (.inl rfl) _).alloc _
          have HSP : Hid (Spans ((wr.setCell ⟨L, 6, none⟩ (.slice (some ⟨wr.heap.size, 0, none⟩) m2 m2)).alloc (.cells (madeCells #[.pointer none, .pointer none, .pointer none] (m2 * 3)) 67)) wr.heap.size m2 bs (fun _ => Sp0)) := by
            have h := spans_new (wr.setCell ⟨L, 6, none⟩ (.slice (some ⟨wr.heap.size, 0, none⟩) m2 m2)) m2 bs
            rwa [hzX] at h
          have hgS : w.heap.size ≤ wr.heap.size := hb.size
          obtain ⟨gS, hgs⟩ : ∃ gS, gS = wr.heap.size := ⟨_, rfl⟩
          clear hzX
          rw [← hgs] at HL4 HK4 HSP hgS ⊢
          generalize World.alloc _ _ = W4 at HL4 HK4 HSP ⊢
          clear hgs hs0 m0' m6' m9' f0 f6 hb hlt3 hAA HLr
          have hLS : L ≠ gS := by omega
          have hRS : gR ≠ gS := by have := HG.out.lt; omega
          have HG4 : Hid (Ty W4 gR 37) := HG.out.keep HK4.out (fun e => hlr e.symm)
          have HR4 : Hid (Routes W4 n bs rs) := HR.out.keep HT.out HK4.out (fun b hb e => (hb.ne HL.out.ty (by decide)) e) (fun b hb e => (hb.ne HL.out.ty (by decide)) e)
          have HT4 : Hid (RTy W4 n bs rs) := HT.out.keep HK4.out (fun b hb e => (hb.ne HL.out.ty (by decide)) e) (fun b hb e => (hb.ne HL.out.ty (by decide)) e)
          have HK : Hid (∀ w' : World, Keep (fun k => k = gS) W4 w' → w'.cell? ⟨L, 0, none⟩ = some (.slice (some ⟨gR, 0, none⟩) n capR) ∧ w'.cell? ⟨L, 6, none⟩ = some (.slice (some ⟨gS, 0, none⟩) m2 m2) ∧ w'.cell? ⟨L, 9, none⟩ = some (.bool rf) ∧ ∀ k, k < n → w'.cell? ⟨gR, k, none⟩ = some (.pointer (some ⟨bs k, 0, none⟩))) := fun w' h =>
            ⟨(h.cell (p := ⟨L, 0, none⟩) HL4.out.ty.lt hLS).trans (HL4.out.cell 0), (h.cell (p := ⟨L, 6, none⟩) HL4.out.ty.lt hLS).trans (HL4.out.cell 6), (h.cell (p := ⟨L, 9, none⟩) HL4.out.ty.lt hLS).trans (HL4.out.cell 9), fun k hk => (h.cell (p := ⟨gR, k, none⟩) HG4.out.lt hRS).trans ((HK4.out.cell (p := ⟨gR, k, none⟩) HG.out.lt (fun e => hlr e.symm)).trans (HRW.out k hk))⟩
          have hn4 : (n : Int) ≤ s := by omega
          go_loopw [72] (fun v wr => ∃ (k : Nat) (q : Nat → Sp), v = .int .i64 k ∧ k ≤ n ∧ Keep (fun k => k = gS) W4 wr ∧ Hid (Spans wr gS m2 bs q) ∧ Hid (∀ x, q x = if s ≤ x ∧ x < s + k then leafS n rs (x - s) else Sp0)) (fun v _ => n - (intOf v).toNat)
          case atStart => exact ⟨0, _, rfl, Nat.zero_le _, Keep.refl _ _, HSP, fun x => by rw [if_neg (by omega)]⟩
          case round =>
            obtain ⟨k, q, rfl, hk, hK, HSQ, HQ⟩ := hrel
            by_cases hlt : k < n
            · obtain ⟨i0, hi0⟩ : ∃ i0, i0 = s + k := ⟨_, rfl⟩
              have hi1 : (s : Int) + k = i0 := by omega
              have hi2 : i0 < m2 := by have := HM.out; omega
              have hi3 : (i0 : Int) < m2 := by omega
              have hi4 : IntKind.i64.wrap (i0 : Int) = i0 := by rw [IntKind.wrap_i64]; omega
              have HI0 := hide hi0
              clear hi0
              have hkr := (HK.out wr hK).2.2.2 k hlt
              have hk6 : ∀ w' : World, Keep (fun k => k = gS) W4 w' → w'.cell? ⟨L, 6, none⟩ = some (.slice (some ⟨gS, 0, none⟩) m2 m2) := fun w' h => (HK.out w' h).2.1
              have HR0 : Hid (Routes wr.drew n bs rs) := HR4.out.keep HT4.out hK.drew (fun b hb e => (hb.ne HSP.out.1 (by decide)) e) (fun b hb e => (hb.ne HSP.out.1 (by decide)) e)
              have HS0 : Hid (Spans wr.drew gS m2 bs q) := HSQ.out.below (Below.refl _ _).drew
              have hA0 : Keep (fun k => k = gS) W4 wr.drew := hK.drew
              go_wp2_with fail
              go_region_held3 (fun w' => Keep (fun k => k = gS) W4 w')
                (first | exact hS1 | exact hA1 | exact hA0)
                (first | (go_at_call 12; refine (span_of _ n bs rs k hlt HR0.out).mono ?_; rintro e w1 ⟨rfl, hb1⟩; have hA1 : Keep (fun k => k = gS) W4 w1 := hA0.below hb1; have HS1 : Hid (Spans w1 gS m2 bs q) := HS0.out.below hb1; clear hb1; obtain ⟨z0, z1, z2⟩ := HS1.out.2.2 i0 hi2; have y0 := HS1.out.2.1 (i0 * 3); have y1 := HS1.out.2.1 (i0 * 3 + 1); have y2 := HS1.out.2.1 (i0 * 3 + 2); have hS1 : Keep (fun k => k = gS) W4 (((w1.setCell ⟨gS, i0 * 3, none⟩ (.pointer (pp bs (leafS n rs k).lead))).setCell ⟨gS, i0 * 3 + 1, none⟩ (.pointer (pp bs (leafS n rs k).first))).setCell ⟨gS, i0 * 3 + 2, none⟩ (.pointer (pp bs (leafS n rs k).last))) := ((hA1.setCell (.inl rfl) _).setCell (.inl rfl) _).setCell (.inl rfl) _))
              have HSP1 := hide (HS1.out.store i0 hi2 (leafS n rs k))
              clear hA0 hA1 hk6 z0 z1 z2 y0 y1 y2 HS0 HR0
              generalize ((w1.setCell ⟨gS, i0 * 3, none⟩ (.pointer (pp bs (leafS n rs k).lead))).setCell ⟨gS, i0 * 3 + 1, none⟩ (.pointer (pp bs (leafS n rs k).first))).setCell ⟨gS, i0 * 3 + 2, none⟩ (.pointer (pp bs (leafS n rs k).last)) = W2 at hS1 HSP1 ⊢
              clear HS1
              go_wp2_with fail
              go_roundw
              case rel =>
                refine ⟨k + 1, _, by go_num, by omega, hS1, HSP1, fun x => ?_⟩
                have e0 := HI0.out
                by_cases hx : x = i0
                · subst hx
                  rw [upd_same, if_pos (by omega)]; congr 1; omega
                · rw [upd_other _ _ hx, HQ.out x]
                  by_cases hc : s ≤ x ∧ x < s + k
                  · rw [if_pos hc, if_pos (by omega)]
                  · rw [if_neg hc, if_neg (by omega)]
              case measure => simp [intOf]; omega
            · obtain rfl : n = k := by omega
              obtain ⟨i1, hi1⟩ : ∃ i1, i1 = s - 1 := ⟨_, rfl⟩
              have g5 : (s : Int) - 1 = i1 := by omega
              have hi2 : i1 + 1 = s := by omega
              clear hi1 hlt
              rename World => W5
              go_wp2_with fail
              go_loopw [8] (fun v wr => ∃ (i : Nat) (q : Nat → Sp), v = .int .i64 i ∧ i < s ∧ Keep (fun k => k = gS) W4 wr ∧ Hid (Spans wr gS m2 bs q) ∧ Hid (∀ k, k < m2 → (q k).In n) ∧ Hid (∀ k, s ≤ k → k < 2 * s → q k = leafS n rs (k - s)) ∧ Hid (∀ k, i < k → k < s → q k = joinS rf rs (q (2 * k)) (q (2 * k + 1)))) (fun v _ => (intOf v).toNat)
              case atStart =>
                refine ⟨i1, q, rfl, by omega, hK, HSQ, fun k hk => ?_, fun k k1 k2 => ?_, fun k k1 k2 => by omega⟩
                · rw [HQ.out k]; split
                  · exact leafS_in _ _ _
                  · exact Sp0_in _
                · rw [HQ.out k]; split
                  · rfl
                  · unfold leafS; rw [if_neg (by omega)]; rfl
              case round =>
                clear hK HSQ HQ
                obtain ⟨i, q, rfl, hi, hK, HSQ, HIQ, HLQ, HCQ⟩ := hrel
                by_cases h0 : 0 < i
                · obtain ⟨i2, hi2⟩ : ∃ i2, i2 = 2 * i := ⟨_, rfl⟩
                  obtain ⟨i3, hi3⟩ : ∃ i3, i3 = 2 * i + 1 := ⟨_, rfl⟩
                  have e2 := HM.out
                  have b2 : i2 < m2 := by omega
                  have b3 : i3 < m2 := by omega
                  have b1 : i < m2 := by omega
                  have g2 : (2 : Int) * i = i2 := by omega
                  have g3 : (i2 : Int) + 1 = i3 := by omega
                  have hm4 : (m2 : Int) ≤ 100000 := by omega
                  have ww2 : IntKind.i64.wrap (i2 : Int) = i2 := by rw [IntKind.wrap_i64]; omega
                  have ww3 : IntKind.i64.wrap (i3 : Int) = i3 := by rw [IntKind.wrap_i64]; omega
                  have c2 : (i2 : Int) < m2 := by omega
                  have c3 : (i3 : Int) < m2 := by omega
                  have c1 : (i : Int) < m2 := by omega
                  have n2 : i2 ≠ i := by omega
                  have n3 : i3 ≠ i := by omega
                  have E2 := hide hi2
                  have E3 := hide hi3
                  clear hi2 hi3 e2
                  obtain ⟨i4, hi4⟩ : ∃ i4, i4 = i - 1 := ⟨_, rfl⟩
                  have hi5 : (i : Int) - 1 = i4 := by omega
                  have b4 : i4 + 1 = i := by omega
                  clear hi4
                  have hk : ∀ w' : World, SS W4 gS m2 bs i2 i3 (q i2) (q i3) w' → w'.cell? ⟨L, 6, none⟩ = some (.slice (some ⟨gS, 0, none⟩) m2 m2) ∧ w'.cell? ⟨L, 9, none⟩ = some (.bool rf) ∧ w'.cell? ⟨gS, i2 * 3, none⟩ = some (.pointer (pp bs (q i2).lead)) ∧ w'.cell? ⟨gS, i2 * 3 + 1, none⟩ = some (.pointer (pp bs (q i2).first)) ∧ w'.cell? ⟨gS, i2 * 3 + 2, none⟩ = some (.pointer (pp bs (q i2).last)) ∧ w'.cell? ⟨gS, i3 * 3, none⟩ = some (.pointer (pp bs (q i3).lead)) ∧ w'.cell? ⟨gS, i3 * 3 + 1, none⟩ = some (.pointer (pp bs (q i3).first)) ∧ w'.cell? ⟨gS, i3 * 3 + 2, none⟩ = some (.pointer (pp bs (q i3).last)) := fun w' h => by
                    obtain ⟨hk1, qq, hs, q2, q3⟩ := h
                    obtain ⟨x0, x1, x2⟩ := hs.2.2 i2 b2
                    obtain ⟨x3, x4, x5⟩ := hs.2.2 i3 b3
                    rw [q2] at x0 x1 x2
                    rw [q3] at x3 x4 x5
                    exact ⟨(HK.out w' hk1).2.1, (HK.out w' hk1).2.2.1, x0, x1, x2, x3, x4, x5⟩
                  have HR0 : Hid (Routes wr.drew n bs rs) := HR4.out.keep HT4.out hK.drew (fun b hb e => (hb.ne HSP.out.1 (by decide)) e) (fun b hb e => (hb.ne HSP.out.1 (by decide)) e)
                  have HS0 : Hid (Spans wr.drew gS m2 bs q) := HSQ.out.below (Below.refl _ _).drew
                  have hA0 : SS W4 gS m2 bs i2 i3 (q i2) (q i3) wr.drew := ⟨hK.drew, q, HS0.out, rfl, rfl⟩
                  go_wp2_with fail
                  go_region_held3 (SS W4 gS m2 bs i2 i3 (q i2) (q i3))
                    (first | exact hS1 | exact hA1 | exact hA0)
                    (first | (go_at_call 18; refine (join_any _ n bs rs (q i2) (q i3) rf HR0.out (HIQ.out i2 b2) (HIQ.out i3 b3)).mono ?_; rintro e w1 ⟨rfl, hb1⟩; have HS1 : Hid (Spans w1 gS m2 bs q) := HS0.out.below hb1; have hA1 : SS W4 gS m2 bs i2 i3 (q i2) (q i3) w1 := ⟨hA0.1.below hb1, q, HS1.out, rfl, rfl⟩; clear hb1; obtain ⟨z0, z1, z2⟩ := HS1.out.2.2 i b1; have y0 := HS1.out.2.1 (i * 3); have y1 := HS1.out.2.1 (i * 3 + 1); have y2 := HS1.out.2.1 (i * 3 + 2); have hS1 : SS W4 gS m2 bs i2 i3 (q i2) (q i3) (((w1.setCell ⟨gS, i * 3, none⟩ (.pointer (pp bs (joinS rf rs (q i2) (q i3)).lead))).setCell ⟨gS, i * 3 + 1, none⟩ (.pointer (pp bs (joinS rf rs (q i2) (q i3)).first))).setCell ⟨gS, i * 3 + 2, none⟩ (.pointer (pp bs (joinS rf rs (q i2) (q i3)).last))) := ⟨((hA1.1.setCell (.inl rfl) _).setCell (.inl rfl) _).setCell (.inl rfl) _, _, HS1.out.store i b1 (joinS rf rs (q i2) (q i3)), upd_other _ _ n2, upd_other _ _ n3⟩))
                  have HSP1 := hide (HS1.out.store i b1 (joinS rf rs (q i2) (q i3)))
                  have hK1 := hS1.1
                  clear hA0 hA1 hk z0 z1 z2 y0 y1 y2 HS0 HR0 hS1
                  generalize ((w1.setCell ⟨gS, i * 3, none⟩ (.pointer (pp bs (joinS rf rs (q i2) (q i3)).lead))).setCell ⟨gS, i * 3 + 1, none⟩ (.pointer (pp bs (joinS rf rs (q i2) (q i3)).first))).setCell ⟨gS, i * 3 + 2, none⟩ (.pointer (pp bs (joinS rf rs (q i2) (q i3)).last)) = W2 at hK1 HSP1 ⊢
                  clear HS1
                  go_wp2_with fail
                  go_roundw
                  case rel =>
                    have e2 := E2.out
                    have e3 := E3.out
                    refine ⟨i4, _, by go_num, by omega, hK1, HSP1, fun k hk => ?_, fun k k1 k2 => ?_, fun k k1 k2 => ?_⟩
                    · unfold upd; split
                      · exact (HIQ.out i2 b2).join (HIQ.out i3 b3)
                      · exact HIQ.out k hk
                    · rw [upd_other _ _ (by omega)]; exact HLQ.out k k1 k2
                    · by_cases hki : k = i
                      · subst hki
                        rw [upd_same, upd_other _ _ (by omega), upd_other _ _ (by omega), e2, e3]
                      · rw [upd_other _ _ hki, upd_other _ _ (by omega), upd_other _ _ (by omega)]
                        exact HCQ.out k (by omega) k2
                  case measure => simp [intOf]; omega
                · obtain rfl : i = 0 := by omega
                  have e2 := HM.out
                  have HL5 := HL4.out.keep hK hLS
                  rw [e2] at HL5
                  go_wp2_with fail
                  obtain ⟨ee, hee⟩ := HE.out
                  exact bodyPost_end (v := .tuple #[]) (by simp [results, Yba.results13, go_sem]) rfl ⟨_, rfl, gS, s, ee, q, hee, by omega, by omega, HK4.out.trans' hK (fun x hx e => absurd hx (by omega)), hgS, HL5, e2 ▸ HSQ.out, e2 ▸ HIQ.out, HLQ.out, HCQ.out⟩
end Go.Proofs.Ybulkcnwo
