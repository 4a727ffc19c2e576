import Derived.Test.YbulkcnwoLawZ
namespace Go.Proofs.Ybulkcnwo
open Go.RowKit
set_option maxHeartbeats 4000000 in
set_option maxRecDepth 100000 in
theorem law_main (w : World) (a0 a1 : Option Addr) (n m cap0 cap1 : Nat) (rf : Bool) (hn0 : 0 < n) (hn : n ≤ 300) (hm : m ≤ 300) (hS : ∀ k, k < n → ∃ s, SpecAt w a0 k s) (hM : ∀ k, k < m → ∃ s, MoveAt w a1 k s) :
    Calls Yba.prog 3 #[.slice a0 n cap0, .slice a1 m cap1, .bool rf] w fun e w' => e = .returned (.bool true) ∧ Below w.heap.size w w' := by
  have HS := hide hS
  have HM := hide hM
  clear hS hM
  have hmk := make25
  go_enter Yba.func3, Yba.ntmps3
  go_upto_region 7 with (at_make; go_must (refine wpList_make_run rfl 25 (.tmp 43) (.tmp 43) rfl (.int .i64 n) (.int .i64 n) rfl rfl (make25 _ n (by omega)) ?_))
  have hSt0 : St ((w.alloc (.cells #[.slice none 0 0, .int .i64 0, .int .i64 0, .int .i64 0, .slice none 0 0, .map none, .slice none 0 0, .int .i64 0, .pointer none, .bool rf] 33)).alloc (.cells (madeCells #[.pointer none] n) 37)) w.heap.size w.heap.size (w.heap.size + 1) n 0 (fun _ => 0) (fun _ => ⟨0, 0, false, 0, none⟩) rf := by
    have hb := @new_block (w.alloc (.cells #[.slice none 0 0, .int .i64 0, .int .i64 0, .int .i64 0, .slice none 0 0, .map none, .slice none 0 0, .int .i64 0, .pointer none, .bool rf] 33)) (.cells (madeCells #[.pointer none] n) 37)
    rw [World.size_alloc] at hb
    refine ⟨⟨_, _, hb⟩, by omega, fun j => by simp only [World.frozen?, hb]; simp, fun j hj => ?_, fun j hj => by omega, ⟨fun i j hi => by omega, fun i hi => by omega⟩, .inl ⟨rfl, ?_⟩⟩
    · simp only [World.cell?, hb]
      simp [madeCells]
      omega
    · exact (Below.heap_alloc _ _ _ (by simp)).trans new_block
  have hb0 : Below w.heap.size w ((w.alloc (.cells #[.slice none 0 0, .int .i64 0, .int .i64 0, .int .i64 0, .slice none 0 0, .map none, .slice none 0 0, .int .i64 0, .pointer none, .bool rf] 33)).alloc (.cells (madeCells #[.pointer none] n) 37)) := ((Below.refl _ _).alloc (Nat.le_refl _) _).alloc (by simp) _
  have HST := hide hSt0
  clear hSt0 hmk
  obtain ⟨gs, hgs⟩ : ∃ gs, gs = w.heap.size + 1 := ⟨_, rfl⟩
  obtain ⟨L, hL⟩ : ∃ L, L = w.heap.size := ⟨_, rfl⟩
  rw [← hgs] at HST ⊢
  have hBL : w.heap.size ≤ L := by omega
  have HST' : Hid (St ((w.alloc (.cells #[.slice none 0 0, .int .i64 0, .int .i64 0, .int .i64 0, .slice none 0 0, .map none, .slice none 0 0, .int .i64 0, .pointer none, .bool rf] 33)).alloc (.cells (madeCells #[.pointer none] n) 37)) w.heap.size L gs n 0 (fun _ => 0) (fun _ => ⟨0, 0, false, 0, none⟩) rf) := by rw [hL]; exact HST.out
  rw [show (Value.pointer (some ⟨w.heap.size, 0, none⟩)) = .pointer (some ⟨L, 0, none⟩) by rw [hL]]
  clear HST hL hgs
  generalize World.alloc _ _ = W0 at HST' hb0 ⊢
  go_wp2_with fail
  go_loopw [47] (fun i wr => ∃ (k : Nat) (bs : Nat → Nat) (rs : Nat → R), k ≤ n ∧ i = .int .i64 k ∧ Hid (St wr w.heap.size L gs n k bs rs rf) ∧ Below w.heap.size w wr) (fun i _ => n - (intOf i).toNat)
  case atStart => exact ⟨0, _, _, Nat.zero_le _, rfl, HST', hb0⟩
  case round =>
    obtain ⟨k, bs, rs, hk, rfl, HSt, hb⟩ := hrel
    clear hb0 HST'
    by_cases hlt : k < n
    · obtain ⟨s, sb, so, rfl, hsb, s1, s2, s3, s4, s5, s6, s7, s8, s9, s10, q0, q1, q2, q3, q4, q5, q6⟩ := HS.out k hlt
      have p0 := (hb.cell (p := ⟨sb, so + k * 7, none⟩) hsb).trans q0
      have p1 := (hb.cell (p := ⟨sb, so + k * 7 + 1, none⟩) hsb).trans q1
      have p2 := (hb.cell (p := ⟨sb, so + k * 7 + 2, none⟩) hsb).trans q2
      have p3 := (hb.cell (p := ⟨sb, so + k * 7 + 3, none⟩) hsb).trans q3
      have p4 := (hb.cell (p := ⟨sb, so + k * 7 + 4, none⟩) hsb).trans q4
      have p5 := (hb.cell (p := ⟨sb, so + k * 7 + 5, none⟩) hsb).trans q5
      have p6 := (hb.cell (p := ⟨sb, so + k * 7 + 6, none⟩) hsb).trans q6
      have hsb' : sb < wr.heap.size := Nat.lt_of_lt_of_le hsb hb.size
      have hltI : (k : Int) < n := by omega
      obtain ⟨peer, parked, reach, best, hasb, gen, root⟩ := s
      simp only at s1 s2 s3 s4 s5 s6 s7 s8 s9 s10 p0 p1 p2 p3 p4 p5 p6
      clear q0 q1 q2 q3 q4 q5 q6
      go_upto_region 11 with fail
      have hz1 : (wr.alloc (.cells #[.int .u8 peer, .bool parked, .int .i8 reach, .int .i8 best, .bool hasb, .int .u8 gen, .int .i8 root] 36)).heap.size = wr.heap.size + 1 := by simp
      have hbX : Below wr.heap.size wr (wr.alloc (.cells #[.int .u8 peer, .bool parked, .int .i8 reach, .int .i8 best, .bool hasb, .int .u8 gen, .int .i8 root] 36)) := (Below.refl _ _).alloc (Nat.le_refl _) _
      refine gen_route (wr.heap.size + 1) hz1.symm reach best parked rfl rfl rfl rfl rfl rfl rfl ?_
      intro W2 hR2 hT2 hb2 hz2
      have hbw2 : Below wr.heap.size wr W2 := hbX.trans (hb2.mono hbX.size)
      rw [hz1] at hz2 hb2
      have c0 : W2.cell? ⟨wr.heap.size, 0, none⟩ = some (.int .u8 peer) := (hb2.cell (p := ⟨wr.heap.size, 0, none⟩) (by show wr.heap.size < wr.heap.size + 1; omega)).trans (by simp [go_sem])
      have c1 : W2.cell? ⟨wr.heap.size, 1, none⟩ = some (.bool parked) := (hb2.cell (p := ⟨wr.heap.size, 1, none⟩) (by show wr.heap.size < wr.heap.size + 1; omega)).trans (by simp [go_sem])
      have c4 : W2.cell? ⟨wr.heap.size, 4, none⟩ = some (.bool hasb) := (hb2.cell (p := ⟨wr.heap.size, 4, none⟩) (by show wr.heap.size < wr.heap.size + 1; omega)).trans (by simp [go_sem])
      have c5 : W2.cell? ⟨wr.heap.size, 5, none⟩ = some (.int .u8 gen) := (hb2.cell (p := ⟨wr.heap.size, 5, none⟩) (by show wr.heap.size < wr.heap.size + 1; omega)).trans (by simp [go_sem])
      have c6 : W2.cell? ⟨wr.heap.size, 6, none⟩ = some (.int .i8 root) := (hb2.cell (p := ⟨wr.heap.size, 6, none⟩) (by show wr.heap.size < wr.heap.size + 1; omega)).trans (by simp [go_sem])
      have HR2 := hide hR2
      have f45 := hR2.2.2.2.2.2.2.2.2 45
      have b45 : W2.cell? ⟨wr.heap.size + 1, 45, none⟩ = some (.string (nm 0)) := hR2.2.2.2.2.2.1
      have hl2 := hR2.1
      clear hR2 hb2 hz2 hz1 hbX p0 p1 p2 p3 p4 p5 p6
      cases parked <;> cases hasb
      · have HNM := hide (name_any peer W2 s1 s2)
        go_upto_region 13 with (go_at_call 5; go_must (refine HNM.out.mono ?_); rintro _ w' ⟨rfl, hw'⟩; have hw2 := hw'.symm; clear hw'; subst hw2)
        have HR3 := hide (HR2.out.setAt ((peer % 12).toNat + 1))
        have hT3 := hT2.setCell ⟨wr.heap.size + 1, 45, none⟩ (.string (nm ((peer % 12).toNat + 1)))
        have hb3 : Below wr.heap.size wr (W2.setCell ⟨wr.heap.size + 1, 45, none⟩ (.string (nm ((peer % 12).toNat + 1)))) := hbw2.setCell (p := ⟨wr.heap.size + 1, 45, none⟩) (by show wr.heap.size ≤ wr.heap.size + 1; omega) _
        have c4' : (W2.setCell ⟨wr.heap.size + 1, 45, none⟩ (.string (nm ((peer % 12).toNat + 1)))).cell? ⟨wr.heap.size, 4, none⟩ = _ := (World.cell?_setCell_other _ _ _ _ (fun e => by injection e with e _ _; omega)).trans c4
        have c5' : (W2.setCell ⟨wr.heap.size + 1, 45, none⟩ (.string (nm ((peer % 12).toNat + 1)))).cell? ⟨wr.heap.size, 5, none⟩ = _ := (World.cell?_setCell_other _ _ _ _ (fun e => by injection e with e _ _; omega)).trans c5
        have c6' : (W2.setCell ⟨wr.heap.size + 1, 45, none⟩ (.string (nm ((peer % 12).toNat + 1)))).cell? ⟨wr.heap.size, 6, none⟩ = _ := (World.cell?_setCell_other _ _ _ _ (fun e => by injection e with e _ _; omega)).trans c6
        clear c0 c1 c4 c5 c6 HNM
        generalize W2.setCell ⟨wr.heap.size + 1, 45, none⟩ (.string (nm ((peer % 12).toNat + 1))) = W3 at HR3 hT3 hb3 c4' c5' c6' ⊢
        go_upto_region 15 with fail
        have HR4 := HR3
        have hT4 := hT3
        have hb4 := hb3
        clear c4' c5' c6'
        generalize W3 = W4 at HR4 hT4 hb4 ⊢
        have hcc : ∀ c g t, (none : Option (Nat × Int × Int)) = some (c, g, t) → Ty W4 c 54 := fun c g t e => by cases e
        have hok : R.ok ⟨reach, best, false, ((peer % 12).toNat + 1), none⟩ := ⟨s3, s4, s5, s6, by simp only; omega, fun c g t e => by cases e⟩
        have HSt4 := hide (HSt.out.below hb4)
        have g1 := HSt4.out.1.lt
        have g2 := HSt4.out.2.2.1 k
        obtain ⟨gv, g3⟩ := Option.isSome_iff_exists.1 (HSt4.out.2.2.2.1 k hlt)
        have HADD := hide (add_step wr W4 w.heap.size L gs n k (wr.heap.size + 1) bs rs _ rf hlt hn hBL HSt.out hb4 (by omega) (by have := hb.size; omega) HR4.out hok hT4 hcc)
        have hB5 : Below w.heap.size w (W4.setCell ⟨gs, k, none⟩ (.pointer (some ⟨wr.heap.size + 1, 0, none⟩))) := (hb.trans (hb4.mono hb.size)).setCell (p := ⟨gs, k, none⟩) HSt4.out.2.1 _
        clear hok hcc hT4 hb4
        go_wp2_with (first | (go_at_call 6; go_must (refine HADD.out.mono ?_); rintro _ w7 ⟨v7, rfl, HSt7, hb7⟩))
        go_roundw
        case rel => exact ⟨k + 1, _, _, by omega, by go_num, HSt7, hB5.trans hb7⟩
        case measure => simp [intOf]; omega

      · have HNM := hide (name_any peer W2 s1 s2)
        go_upto_region 13 with (go_at_call 5; go_must (refine HNM.out.mono ?_); rintro _ w' ⟨rfl, hw'⟩; have hw2 := hw'.symm; clear hw'; subst hw2)
        have HR3 := hide (HR2.out.setAt ((peer % 12).toNat + 1))
        have hT3 := hT2.setCell ⟨wr.heap.size + 1, 45, none⟩ (.string (nm ((peer % 12).toNat + 1)))
        have hb3 : Below wr.heap.size wr (W2.setCell ⟨wr.heap.size + 1, 45, none⟩ (.string (nm ((peer % 12).toNat + 1)))) := hbw2.setCell (p := ⟨wr.heap.size + 1, 45, none⟩) (by show wr.heap.size ≤ wr.heap.size + 1; omega) _
        have c4' : (W2.setCell ⟨wr.heap.size + 1, 45, none⟩ (.string (nm ((peer % 12).toNat + 1)))).cell? ⟨wr.heap.size, 4, none⟩ = _ := (World.cell?_setCell_other _ _ _ _ (fun e => by injection e with e _ _; omega)).trans c4
        have c5' : (W2.setCell ⟨wr.heap.size + 1, 45, none⟩ (.string (nm ((peer % 12).toNat + 1)))).cell? ⟨wr.heap.size, 5, none⟩ = _ := (World.cell?_setCell_other _ _ _ _ (fun e => by injection e with e _ _; omega)).trans c5
        have c6' : (W2.setCell ⟨wr.heap.size + 1, 45, none⟩ (.string (nm ((peer % 12).toNat + 1)))).cell? ⟨wr.heap.size, 6, none⟩ = _ := (World.cell?_setCell_other _ _ _ _ (fun e => by injection e with e _ _; omega)).trans c6
        clear c0 c1 c4 c5 c6 HNM
        generalize W2.setCell ⟨wr.heap.size + 1, 45, none⟩ (.string (nm ((peer % 12).toNat + 1))) = W3 at HR3 hT3 hb3 c4' c5' c6' ⊢
        have f39 := HR3.out.2.2.2.2.2.2.2.2 39
        have c39 : W3.cell? ⟨wr.heap.size + 1, 39, none⟩ = some (.pointer none) := HR3.out.2.2.2.2.1
        have hlt3 := HR3.out.1
        go_upto_region 15 with fail
        have HR4 := hide (HR3.out.setBeat gen root rfl)
        have hz3 : (W3.setCell ⟨wr.heap.size + 1, 39, none⟩ (.pointer (some ⟨W3.heap.size, 0, none⟩))).heap.size = W3.heap.size := by simp [World.setCell]
        have hT4 : Ty ((W3.setCell ⟨wr.heap.size + 1, 39, none⟩ (.pointer (some ⟨W3.heap.size, 0, none⟩))).alloc (.cells #[.int .u64 gen, fl root, .float .f64 0] 54)) (wr.heap.size + 1) 51 := (hT3.setCell _ _).below ((Below.refl _ _).alloc (Nat.le_refl _) _)
        have hc4 : Ty ((W3.setCell ⟨wr.heap.size + 1, 39, none⟩ (.pointer (some ⟨W3.heap.size, 0, none⟩))).alloc (.cells #[.int .u64 gen, fl root, .float .f64 0] 54)) W3.heap.size 54 := by
          have := @new_block (W3.setCell ⟨wr.heap.size + 1, 39, none⟩ (.pointer (some ⟨W3.heap.size, 0, none⟩))) (.cells #[.int .u64 gen, fl root, .float .f64 0] 54)
          rw [hz3] at this
          exact ⟨_, _, this⟩
        have hb4 : Below wr.heap.size wr ((W3.setCell ⟨wr.heap.size + 1, 39, none⟩ (.pointer (some ⟨W3.heap.size, 0, none⟩))).alloc (.cells #[.int .u64 gen, fl root, .float .f64 0] 54)) := (hb3.setCell (p := ⟨wr.heap.size + 1, 39, none⟩) (by show wr.heap.size ≤ wr.heap.size + 1; omega) _).alloc (by rw [hz3]; exact hb3.size) _
        unfold fl at HR4 hT4 hc4 hb4
        clear f39 c39 c4' c5' c6' hz3 hlt3
        generalize World.alloc _ _ = W4 at HR4 hT4 hc4 hb4 ⊢
        have hcc : ∀ c g t, (some (W3.heap.size, gen, root) : Option (Nat × Int × Int)) = some (c, g, t) → Ty W4 c 54 := fun c g t e => by injection e with e; injection e with e _; subst e; exact hc4
        have hok : R.ok ⟨reach, best, false, ((peer % 12).toNat + 1), some (W3.heap.size, gen, root)⟩ := ⟨s3, s4, s5, s6, by simp only; omega, fun c g t e => by simp only at e; injection e with e; injection e with e1 e2; injection e2 with e2 e3; subst e2; subst e3; exact ⟨s7, s8, s9, s10⟩⟩
        have HSt4 := hide (HSt.out.below hb4)
        have g1 := HSt4.out.1.lt
        have g2 := HSt4.out.2.2.1 k
        obtain ⟨gv, g3⟩ := Option.isSome_iff_exists.1 (HSt4.out.2.2.2.1 k hlt)
        have HADD := hide (add_step wr W4 w.heap.size L gs n k (wr.heap.size + 1) bs rs _ rf hlt hn hBL HSt.out hb4 (by omega) (by have := hb.size; omega) HR4.out hok hT4 hcc)
        have hB5 : Below w.heap.size w (W4.setCell ⟨gs, k, none⟩ (.pointer (some ⟨wr.heap.size + 1, 0, none⟩))) := (hb.trans (hb4.mono hb.size)).setCell (p := ⟨gs, k, none⟩) HSt4.out.2.1 _
        clear hok hcc hT4 hb4
        go_wp2_with (first | (go_at_call 6; go_must (refine HADD.out.mono ?_); rintro _ w7 ⟨v7, rfl, HSt7, hb7⟩))
        go_roundw
        case rel => exact ⟨k + 1, _, _, by omega, by go_num, HSt7, hB5.trans hb7⟩
        case measure => simp [intOf]; omega

      · go_upto_region 13 with fail
        have HR3 := HR2
        have hT3 := hT2
        have hb3 := hbw2
        have c4' := c4
        have c5' := c5
        have c6' := c6
        clear c0 c1 c4 c5 c6
        generalize W2 = W3 at HR3 hT3 hb3 c4' c5' c6' ⊢
        go_upto_region 15 with fail
        have HR4 := HR3
        have hT4 := hT3
        have hb4 := hb3
        clear c4' c5' c6'
        generalize W3 = W4 at HR4 hT4 hb4 ⊢
        have hcc : ∀ c g t, (none : Option (Nat × Int × Int)) = some (c, g, t) → Ty W4 c 54 := fun c g t e => by cases e
        have hok : R.ok ⟨reach, best, true, 0, none⟩ := ⟨s3, s4, s5, s6, by simp only; omega, fun c g t e => by cases e⟩
        have HSt4 := hide (HSt.out.below hb4)
        have g1 := HSt4.out.1.lt
        have g2 := HSt4.out.2.2.1 k
        obtain ⟨gv, g3⟩ := Option.isSome_iff_exists.1 (HSt4.out.2.2.2.1 k hlt)
        have HADD := hide (add_step wr W4 w.heap.size L gs n k (wr.heap.size + 1) bs rs _ rf hlt hn hBL HSt.out hb4 (by omega) (by have := hb.size; omega) HR4.out hok hT4 hcc)
        have hB5 : Below w.heap.size w (W4.setCell ⟨gs, k, none⟩ (.pointer (some ⟨wr.heap.size + 1, 0, none⟩))) := (hb.trans (hb4.mono hb.size)).setCell (p := ⟨gs, k, none⟩) HSt4.out.2.1 _
        clear hok hcc hT4 hb4
        go_wp2_with (first | (go_at_call 6; go_must (refine HADD.out.mono ?_); rintro _ w7 ⟨v7, rfl, HSt7, hb7⟩))
        go_roundw
        case rel => exact ⟨k + 1, _, _, by omega, by go_num, HSt7, hB5.trans hb7⟩
        case measure => simp [intOf]; omega

      · go_upto_region 13 with fail
        have HR3 := HR2
        have hT3 := hT2
        have hb3 := hbw2
        have c4' := c4
        have c5' := c5
        have c6' := c6
        clear c0 c1 c4 c5 c6
        generalize W2 = W3 at HR3 hT3 hb3 c4' c5' c6' ⊢
        have f39 := HR3.out.2.2.2.2.2.2.2.2 39
        have c39 : W3.cell? ⟨wr.heap.size + 1, 39, none⟩ = some (.pointer none) := HR3.out.2.2.2.2.1
        have hlt3 := HR3.out.1
        go_upto_region 15 with fail
        have HR4 := hide (HR3.out.setBeat gen root rfl)
        have hz3 : (W3.setCell ⟨wr.heap.size + 1, 39, none⟩ (.pointer (some ⟨W3.heap.size, 0, none⟩))).heap.size = W3.heap.size := by simp [World.setCell]
        have hT4 : Ty ((W3.setCell ⟨wr.heap.size + 1, 39, none⟩ (.pointer (some ⟨W3.heap.size, 0, none⟩))).alloc (.cells #[.int .u64 gen, fl root, .float .f64 0] 54)) (wr.heap.size + 1) 51 := (hT3.setCell _ _).below ((Below.refl _ _).alloc (Nat.le_refl _) _)
        have hc4 : Ty ((W3.setCell ⟨wr.heap.size + 1, 39, none⟩ (.pointer (some ⟨W3.heap.size, 0, none⟩))).alloc (.cells #[.int .u64 gen, fl root, .float .f64 0] 54)) W3.heap.size 54 := by
          have := @new_block (W3.setCell ⟨wr.heap.size + 1, 39, none⟩ (.pointer (some ⟨W3.heap.size, 0, none⟩))) (.cells #[.int .u64 gen, fl root, .float .f64 0] 54)
          rw [hz3] at this
          exact ⟨_, _, this⟩
        have hb4 : Below wr.heap.size wr ((W3.setCell ⟨wr.heap.size + 1, 39, none⟩ (.pointer (some ⟨W3.heap.size, 0, none⟩))).alloc (.cells #[.int .u64 gen, fl root, .float .f64 0] 54)) := (hb3.setCell (p := ⟨wr.heap.size + 1, 39, none⟩) (by show wr.heap.size ≤ wr.heap.size + 1; omega) _).alloc (by rw [hz3]; exact hb3.size) _
        unfold fl at HR4 hT4 hc4 hb4
        clear f39 c39 c4' c5' c6' hz3 hlt3
        generalize World.alloc _ _ = W4 at HR4 hT4 hc4 hb4 ⊢
        have hcc : ∀ c g t, (some (W3.heap.size, gen, root) : Option (Nat × Int × Int)) = some (c, g, t) → Ty W4 c 54 := fun c g t e => by injection e with e; injection e with e _; subst e; exact hc4
        have hok : R.ok ⟨reach, best, true, 0, some (W3.heap.size, gen, root)⟩ := ⟨s3, s4, s5, s6, by simp only; omega, fun c g t e => by simp only at e; injection e with e; injection e with e1 e2; injection e2 with e2 e3; subst e2; subst e3; exact ⟨s7, s8, s9, s10⟩⟩
        have HSt4 := hide (HSt.out.below hb4)
        have g1 := HSt4.out.1.lt
        have g2 := HSt4.out.2.2.1 k
        obtain ⟨gv, g3⟩ := Option.isSome_iff_exists.1 (HSt4.out.2.2.2.1 k hlt)
        have HADD := hide (add_step wr W4 w.heap.size L gs n k (wr.heap.size + 1) bs rs _ rf hlt hn hBL HSt.out hb4 (by omega) (by have := hb.size; omega) HR4.out hok hT4 hcc)
        have hB5 : Below w.heap.size w (W4.setCell ⟨gs, k, none⟩ (.pointer (some ⟨wr.heap.size + 1, 0, none⟩))) := (hb.trans (hb4.mono hb.size)).setCell (p := ⟨gs, k, none⟩) HSt4.out.2.1 _
        clear hok hcc hT4 hb4
        go_wp2_with (first | (go_at_call 6; go_must (refine HADD.out.mono ?_); rintro _ w7 ⟨v7, rfl, HSt7, hb7⟩))
        go_roundw
        case rel => exact ⟨k + 1, _, _, by omega, by go_num, HSt7, hB5.trans hb7⟩
        case measure => simp [intOf]; omega

    · obtain rfl : n = k := by omega
      have HS2 := hide (HSt.out.two hn0)
      clear HSt HS hlt
      rename World => W1
      go_wp2_with fail
      go_loopw [94] (fun i wr => ∃ (k : Nat) (rs : Nat → R), k ≤ m ∧ i = .int .i64 k ∧ Hid (St2 wr w.heap.size L gs n bs rs rf (10 * n + 20 * k)) ∧ Below w.heap.size w wr) (fun i _ => m - (intOf i).toNat)
      case atStart => exact ⟨0, rs, Nat.zero_le _, rfl, HS2, hb⟩
      case round =>
        clear HS2 hb rs
        obtain ⟨k, rs, hk, rfl, HSt, hb⟩ := hrel
        by_cases hlt : k < m
        · obtain ⟨s, sb, so, rfl, hsb, s1, s2, s3, s4, s5, s6, q0, q1, q2⟩ := HM.out k hlt
          have p0 := (hb.cell (p := ⟨sb, so + k * 3, none⟩) hsb).trans q0
          have p1 := (hb.cell (p := ⟨sb, so + k * 3 + 1, none⟩) hsb).trans q1
          have p2 := (hb.cell (p := ⟨sb, so + k * 3 + 2, none⟩) hsb).trans q2
          have hsb' : sb < wr.heap.size := Nat.lt_of_lt_of_le hsb hb.size
          have hltI : (k : Int) < m := by omega
          obtain ⟨pick, peer, reach⟩ := s
          simp only at s1 s2 s3 s4 s5 s6 p0 p1 p2
          obtain ⟨j, hj⟩ : ∃ j : Nat, (j : Int) = pick % n := ⟨(pick % n).toNat, Int.toNat_of_nonneg (Int.emod_nonneg _ (by omega))⟩
          have hjn : j < n := by have := Int.emod_lt_of_pos pick (show (0 : Int) < n by omega); omega
          have hm1 : pick % (n : Int) = j := hj.symm
          have hm2 : pick.tmod (n : Int) = j := by rw [Int.tmod_eq_emod_of_nonneg s1]; exact hm1
          have hnz : ¬ (n : Int) = 0 := by omega
          have hjI : (j : Int) < n := by omega
          clear q0 q1 q2 hj
          have hcg := HSt.out.2.2.1 j hjn
          have hgl := HSt.out.1.lt
          obtain ⟨gR, cnt, t, ⟨_, _, _, _, _, _, _, _, _, _, hRR, _⟩, -⟩ := HSt.out.2.2.2.2
          have HRj := hide (hRR j hjn).1
          clear hRR
          have b52 := HRj.out.2.2.2.1
          have b45 := HRj.out.2.2.2.2.2.1
          have b48 := HRj.out.2.2.1
          have f45 := HRj.out.2.2.2.2.2.2.2.2 45
          have f48 := HRj.out.2.2.2.2.2.2.2.2 48
          have hbl := HRj.out.1
          cases hpk : (rs j).parked
          · rw [hpk] at b52
            have hb5 : Below wr.heap.size wr (wr.alloc (.cells #[.int .u16 pick, .int .u8 peer, .int .i8 reach] 58)) := (Below.refl _ _).alloc (Nat.le_refl _) _
            have HNM := hide fun W => name_any peer W s3 s4
            have HMV := hide (move_step wr _ w.heap.size L gs n j ((peer % 12).toNat + 1) (10 * n + 20 * k) reach bs rs rf hjn hn hBL (by omega) (by omega) s5 s6 HSt.out hb5)
            have hbj := HSt.out.2.2.2.1.2 j hjn
            unfold fl at HMV b48
            generalize hnm : nm (rs j).at' = fr at *
            clear hnm
            go_upto_region 25 with (first | (go_at_call 5; go_must (refine (HNM.out _).mono ?_); rintro _ w' ⟨rfl, hw'⟩; subst hw'))
            have heq : (wr.setCell ⟨bs j, 45, none⟩ (.string (nm ((peer % 12).toNat + 1)))).alloc (.cells #[.int .u16 pick, .int .u8 peer, .int .i8 reach] 58) = (wr.alloc (.cells #[.int .u16 pick, .int .u8 peer, .int .i8 reach] 58)).setCell ⟨bs j, 45, none⟩ (.string (nm ((peer % 12).toNat + 1))) := (World.setCell_alloc_past _ _ _ _ hbl).symm
            rw [heq]
            have k2 : ((wr.alloc (.cells #[.int .u16 pick, .int .u8 peer, .int .i8 reach] 58)).setCell ⟨bs j, 45, none⟩ (.string (nm ((peer % 12).toNat + 1)))).cell? ⟨wr.heap.size, 2, none⟩ = some (.int .i8 reach) := by rw [World.cell?_setCell_other _ _ _ _ (fun e => by injection e with e _ _; omega)]; simp [go_sem]
            have k48 : ((wr.alloc (.cells #[.int .u16 pick, .int .u8 peer, .int .i8 reach] 58)).setCell ⟨bs j, 45, none⟩ (.string (nm ((peer % 12).toNat + 1)))).cell? ⟨bs j, 48, none⟩ = some (.float .f64 (floatOfInt .f64 (rs j).reach)) := by rw [World.cell?_setCell_other _ _ _ _ (fun e => by injection e with _ e _; omega), World.cell?_alloc_lt _ _ _ hbl]; exact b48
            have kf48 : ((wr.alloc (.cells #[.int .u16 pick, .int .u8 peer, .int .i8 reach] 58)).setCell ⟨bs j, 45, none⟩ (.string (nm ((peer % 12).toNat + 1)))).frozen? ⟨bs j, 48, none⟩ = false := by rw [World.frozen?_setCell, World.frozen?_alloc_past _ _ _ hbl]; exact f48
            have hB5 : Below w.heap.size w ((wr.alloc (.cells #[.int .u16 pick, .int .u8 peer, .int .i8 reach] 58)).setCell ⟨bs j, 45, none⟩ (.string (nm ((peer % 12).toNat + 1)))) := (hb.alloc hb.size _).setCell (p := ⟨bs j, 45, none⟩) hbj _
            have hl5 : wr.heap.size < ((wr.alloc (.cells #[.int .u16 pick, .int .u8 peer, .int .i8 reach] 58)).setCell ⟨bs j, 45, none⟩ (.string (nm ((peer % 12).toNat + 1)))).heap.size := by simp [World.setCell]
            clear b45 b48 b52 f45 f48 hcg HNM heq hb5
            generalize (wr.alloc (.cells #[.int .u16 pick, .int .u8 peer, .int .i8 reach] 58)).setCell ⟨bs j, 45, none⟩ (.string (nm ((peer % 12).toNat + 1))) = W5 at HMV k2 k48 kf48 hB5 hl5 ⊢
            have hsf := store_float
            go_wp2_with (first | (go_at_call 7; go_must (refine HMV.out.mono ?_); rintro _ w7 ⟨v7, rfl, HSt7, hb7⟩))
            have hB6 := hB5.setCell (p := ⟨bs j, 48, none⟩) hbj (.float .f64 (floatOfInt .f64 reach))
            go_roundw
            case rel => exact ⟨k + 1, _, by omega, by go_num, HSt7, hB6.trans hb7⟩
            case measure => simp [intOf]; omega
          · rw [hpk] at b52
            go_wp2_with fail
            go_roundw
            case rel =>
              refine ⟨k + 1, rs, by omega, by go_num, ?_, hb.alloc hb.size _⟩
              obtain ⟨h1, h2, h3, h4, gR', cnt', t', h5, h6, h7, h8⟩ := HSt.out.below ((Below.refl _ _).alloc (Nat.le_refl _) (.cells #[.int .u16 pick, .int .u8 peer, .int .i8 reach] 58))
              exact ⟨h1, h2, h3, h4, gR', cnt', t', h5, h6, by omega, h8⟩
            case measure => simp [intOf]; omega
        · obtain rfl : m = k := by omega
          have hSt := HSt.out
          clear HSt HM hlt
          obtain ⟨hgT, hBgs, hcells, hinj, gR, cnt, t, ⟨capR, gS, size, ee, sp, few, many, par, hL, hrow, hR, hRT, hBS, hSp, hIn, hTr, hee, hns, hsz, hC, hp0, hp1⟩, hgR, ht, hcnt⟩ := hSt
          have hcf : cnt = cntOf rs n := funext hcnt
          subst hcf
          have HL := hide hL
          have HGT := hide hgT
          have HCE := hide hcells
          have HRW := hide hrow
          have HR := hide hR
          have HSP := hide hSp
          have HC := hide hC
          have HLD := hide (tree_lead hTr (fun i hi => (hR i hi).2) hee hns)
          have hm2 : 2 ≤ 2 * size := by omega
          clear hL hgT hcells hrow hR hRT hSp hIn hTr hee hC hcnt hinj hgR hp0 hp1 ht hBgs hBS
          rename World => WZ
          go_wp2_with fail
          go_loopw [16] (fun v wr => ∃ p : Nat, p ≤ 13 ∧ v = .int .i64 p ∧ Below WZ.heap.size WZ wr) (fun v _ => 13 - (intOf v).toNat)
          case atStart => exact ⟨0, by omega, rfl, Below.refl _ _⟩
          case round =>
            obtain ⟨p, hp, rfl, hbz⟩ := hrel
            by_cases hp13 : p < 13
            · have h13I : (p : Int) < 13 := by omega
              by_cases h12 : p < 12
              · have hmod : ((p : Int) % 12).toNat + 1 = p + 1 := by omega
                have h12I : (p : Int) < 12 := by omega
                have HNM := hide (name_any (p : Int) wr (by omega) (by omega))
                rw [hmod] at HNM
                clear hmod
                go_upto_region 34 with (go_at_call 5; go_must (refine HNM.out.mono ?_); rintro _ w' ⟨rfl, hw'⟩; subst hw')
                clear HNM
                obtain ⟨q, hq⟩ : ∃ q, q = p + 1 := ⟨_, rfl⟩
                have hq12 : q ≤ 12 := by omega
                rw [← hq]
                have HG := hide fun (W : World) (hW : Below WZ.heap.size WZ W) => get_any W w.heap.size L few many t (cntOf rs n) q hq12 (HC.out.below hW) (HL.out.below hW).ty.lt ((HL.out.below hW).cell 4) ((HL.out.below hW).cell 5)
                have HO := hide fun (W : World) (hW : Below WZ.heap.size WZ W) => outTo_any W w.heap.size L t _ (cntOf rs n) q hq12 (HL.out.below hW) (HC.out.below hW)
                have HEQ := hide fun (a : Nat) (ha : a ≤ 12) => nm_beq ha hq12
                generalize nm q = qb at HG HO HEQ ⊢
                rename World => WP
                go_wp2_with fail
                go_loopw [18, 143] (fun v i wr => ∃ k : Nat, k ≤ n ∧ v = .int .i64 (cntOf rs k q) ∧ i = .int .i64 k ∧ Below WZ.heap.size WZ wr) (fun _ i _ => n - (intOf i).toNat)
                case atStart => exact ⟨0, by omega, rfl, rfl, hbz⟩
                case round =>
                  clear hbz
                  obtain ⟨k, hk, rfl, rfl, hbk⟩ := hrel
                  by_cases hlt : k < n
                  · have hcg := (hbk.cell (p := ⟨gs, k, none⟩) HGT.out.lt).trans (HCE.out k hlt)
                    have hgl := Nat.lt_of_lt_of_le HGT.out.lt hbk.size
                    have hRk := (HR.out.below hbk) k hlt
                    have hbl := hRk.1.1
                    have b45 := hRk.1.2.2.2.2.2.1
                    have hat := hRk.2.2.2.2.2.1
                    have hltI : (k : Int) < n := by omega
                    have hcl := cntOf_le rs k q
                    have hc1 : cntOf rs (k + 1) q = cntOf rs k q + if (rs k).at' = q then 1 else 0 := rfl
                    have heq := HEQ.out _ hat
                    clear hRk
                    by_cases e : (rs k).at' = q
                    · have hd : decide ((rs k).at' = q) = true := by simp [e]
                      simp only [hd] at heq
                      rw [if_pos e] at hc1
                      generalize nm (rs k).at' = xb at heq b45
                      generalize cntOf rs k q = c at hcl hc1 ⊢
                      clear hd e
                      go_wp2_with fail
                      go_roundw
                      case rel => exact ⟨k + 1, by omega, by rw [hc1]; go_num, by go_num, hbk⟩
                      case measure => simp [intOf]; omega
                    · have hd : decide ((rs k).at' = q) = false := by simp [e]
                      simp only [hd] at heq
                      rw [if_neg e] at hc1
                      generalize nm (rs k).at' = xb at heq b45
                      generalize cntOf rs k q = c at hcl hc1 ⊢
                      clear hd e
                      go_wp2_with fail
                      go_roundw
                      case rel => exact ⟨k + 1, by omega, by rw [hc1]; go_num, by go_num, hbk⟩
                      case measure => simp [intOf]; omega
                  · obtain rfl : n = k := by omega
                    have hcl := cntOf_le rs n q
                    generalize cntOf rs n q = c at hcl HG HO ⊢
                    rcases Nat.eq_zero_or_pos c with hc0 | hc0
                    · have hd : decide (0 < c) = false := by simp; omega
                      simp only [hd] at HG HO
                      have hcI : ¬ (0 : Int) < c := by omega
                      have hHG := hide (HG.out _ hbk)
                      clear hd
                      go_wp2_with (first | (go_at_call 8; go_must (refine hHG.out.mono ?_); rintro _ w1 ⟨rfl, hb1⟩) | (go_at_call 9; go_must (refine (HO.out _ (hbk.trans (hb1.mono hbk.size))).mono ?_); rintro _ w2 ⟨rfl, hb2⟩))
                      go_roundw
                      case rel => exact ⟨p + 1, by omega, by go_num, (hbk.trans (hb1.mono hbk.size)).trans (hb2.mono (hbk.trans (hb1.mono hbk.size)).size)⟩
                      case measure => simp [intOf]; omega
                    · have hd : decide (0 < c) = true := by simp; omega
                      simp only [hd] at HG HO
                      have hcI : (0 : Int) < c := by omega
                      have hHG := hide (HG.out _ hbk)
                      clear hd
                      go_wp2_with (first | (go_at_call 8; go_must (refine hHG.out.mono ?_); rintro _ w1 ⟨rfl, hb1⟩) | (go_at_call 9; go_must (refine (HO.out _ (hbk.trans (hb1.mono hbk.size))).mono ?_); rintro _ w2 ⟨rfl, hb2⟩))
                      go_roundw
                      case rel => exact ⟨p + 1, by omega, by go_num, (hbk.trans (hb1.mono hbk.size)).trans (hb2.mono (hbk.trans (hb1.mono hbk.size)).size)⟩
                      case measure => simp [intOf]; omega
              · have h12I : ¬ (p : Int) < 12 := by omega
                go_upto_region 34 with fail
                obtain ⟨q, hq⟩ : ∃ q, q = 0 := ⟨_, rfl⟩
                have hq12 : q ≤ 12 := by omega
                rw [show (Value.string { data := #[] }) = .string (nm q) by rw [hq]; rfl]
                have HG := hide fun (W : World) (hW : Below WZ.heap.size WZ W) => get_any W w.heap.size L few many t (cntOf rs n) q hq12 (HC.out.below hW) (HL.out.below hW).ty.lt ((HL.out.below hW).cell 4) ((HL.out.below hW).cell 5)
                have HO := hide fun (W : World) (hW : Below WZ.heap.size WZ W) => outTo_any W w.heap.size L t _ (cntOf rs n) q hq12 (HL.out.below hW) (HC.out.below hW)
                have HEQ := hide fun (a : Nat) (ha : a ≤ 12) => nm_beq ha hq12
                generalize nm q = qb at HG HO HEQ ⊢
                rename World => WP
                go_wp2_with fail
                go_loopw [18, 143] (fun v i wr => ∃ k : Nat, k ≤ n ∧ v = .int .i64 (cntOf rs k q) ∧ i = .int .i64 k ∧ Below WZ.heap.size WZ wr) (fun _ i _ => n - (intOf i).toNat)
                case atStart => exact ⟨0, by omega, rfl, rfl, hbz⟩
                case round =>
                  clear hbz
                  obtain ⟨k, hk, rfl, rfl, hbk⟩ := hrel
                  by_cases hlt : k < n
                  · have hcg := (hbk.cell (p := ⟨gs, k, none⟩) HGT.out.lt).trans (HCE.out k hlt)
                    have hgl := Nat.lt_of_lt_of_le HGT.out.lt hbk.size
                    have hRk := (HR.out.below hbk) k hlt
                    have hbl := hRk.1.1
                    have b45 := hRk.1.2.2.2.2.2.1
                    have hat := hRk.2.2.2.2.2.1
                    have hltI : (k : Int) < n := by omega
                    have hcl := cntOf_le rs k q
                    have hc1 : cntOf rs (k + 1) q = cntOf rs k q + if (rs k).at' = q then 1 else 0 := rfl
                    have heq := HEQ.out _ hat
                    clear hRk
                    by_cases e : (rs k).at' = q
                    · have hd : decide ((rs k).at' = q) = true := by simp [e]
                      simp only [hd] at heq
                      rw [if_pos e] at hc1
                      generalize nm (rs k).at' = xb at heq b45
                      generalize cntOf rs k q = c at hcl hc1 ⊢
                      clear hd e
                      go_wp2_with fail
                      go_roundw
                      case rel => exact ⟨k + 1, by omega, by rw [hc1]; go_num, by go_num, hbk⟩
                      case measure => simp [intOf]; omega
                    · have hd : decide ((rs k).at' = q) = false := by simp [e]
                      simp only [hd] at heq
                      rw [if_neg e] at hc1
                      generalize nm (rs k).at' = xb at heq b45
                      generalize cntOf rs k q = c at hcl hc1 ⊢
                      clear hd e
                      go_wp2_with fail
                      go_roundw
                      case rel => exact ⟨k + 1, by omega, by rw [hc1]; go_num, by go_num, hbk⟩
                      case measure => simp [intOf]; omega
                  · obtain rfl : n = k := by omega
                    have hcl := cntOf_le rs n q
                    generalize cntOf rs n q = c at hcl HG HO ⊢
                    rcases Nat.eq_zero_or_pos c with hc0 | hc0
                    · have hd : decide (0 < c) = false := by simp; omega
                      simp only [hd] at HG HO
                      have hcI : ¬ (0 : Int) < c := by omega
                      have hHG := hide (HG.out _ hbk)
                      clear hd
                      go_wp2_with (first | (go_at_call 8; go_must (refine hHG.out.mono ?_); rintro _ w1 ⟨rfl, hb1⟩) | (go_at_call 9; go_must (refine (HO.out _ (hbk.trans (hb1.mono hbk.size))).mono ?_); rintro _ w2 ⟨rfl, hb2⟩))
                      go_roundw
                      case rel => exact ⟨p + 1, by omega, by go_num, (hbk.trans (hb1.mono hbk.size)).trans (hb2.mono (hbk.trans (hb1.mono hbk.size)).size)⟩
                      case measure => simp [intOf]; omega
                    · have hd : decide (0 < c) = true := by simp; omega
                      simp only [hd] at HG HO
                      have hcI : (0 : Int) < c := by omega
                      have hHG := hide (HG.out _ hbk)
                      clear hd
                      go_wp2_with (first | (go_at_call 8; go_must (refine hHG.out.mono ?_); rintro _ w1 ⟨rfl, hb1⟩) | (go_at_call 9; go_must (refine (HO.out _ (hbk.trans (hb1.mono hbk.size))).mono ?_); rintro _ w2 ⟨rfl, hb2⟩))
                      go_roundw
                      case rel => exact ⟨p + 1, by omega, by go_num, (hbk.trans (hb1.mono hbk.size)).trans (hb2.mono (hbk.trans (hb1.mono hbk.size)).size)⟩
                      case measure => simp [intOf]; omega
            · have h13I : ¬ (p : Int) < 13 := by omega
              rename World => W3
              go_wp2_with fail
              go_loopw [23, 181] (fun v i wr => ∃ k : Nat, k ≤ n ∧ v = .pointer (pp bs (fold rf n rs 0 k)) ∧ i = .int .i64 k ∧ Below WZ.heap.size WZ wr) (fun _ i _ => n - (intOf i).toNat)
              case atStart => exact ⟨0, by omega, rfl, rfl, hbz⟩
              case round =>
                clear hbz
                obtain ⟨k, hk, rfl, rfl, hbk⟩ := hrel
                by_cases hlt : k < n
                · have hcg := (hbk.cell (p := ⟨gs, k, none⟩) HGT.out.lt).trans (HCE.out k hlt)
                  have hgl := Nat.lt_of_lt_of_le HGT.out.lt hbk.size
                  have hRR := HR.out.below hbk
                  have hRk := hRR k hlt
                  have hbl := hRk.1.1
                  have b52 := hRk.1.2.2.2.1
                  have hltI : (k : Int) < n := by omega
                  have hf1 : fold rf n rs 0 (k + 1) = earl rf rs (fold rf n rs 0 k) (if (rs k).parked then none else some k) := by
                    show earl rf rs (fold rf n rs 0 k) (leafS n rs (0 + k)).lead = _
                    rw [Nat.zero_add, leafS, if_pos hlt]
                    cases (rs k).parked <;> rfl
                  have hin : In n (fold rf n rs 0 k) := fold_in k
                  cases hpk : (rs k).parked
                  · rw [hpk] at b52
                    rw [hpk, if_neg (by decide)] at hf1
                    cases hfo : fold rf n rs 0 k with
                    | none =>
                      rw [hfo] at hf1
                      have hf2 : fold rf n rs 0 (k + 1) = some k := hf1
                      clear hRR hRk hf1 hfo hin
                      go_wp2_with fail
                      go_roundw
                      case rel => exact ⟨k + 1, by omega, by rw [hf2]; rfl, by go_num, hbk⟩
                      case measure => simp [intOf]; omega
                    | some i =>
                      have hi := hin i hfo
                      rw [hfo] at hf1
                      have hf2 : fold rf n rs 0 (k + 1) = if bef rf (rs k) (rs i) then some k else some i := hf1
                      have HBE := hide (before_any _ (bs k) (bs i) (rs k) (rs i) k i hRk.1 (hRR i hi).1 hRk.2 (hRR i hi).2 rf)
                      clear hRR hRk hf1 hfo hin
                      rw [show pp bs (some i) = some ⟨bs i, 0, none⟩ from rfl]
                      cases hbf : bef rf (rs k) (rs i)
                      · rw [hbf] at HBE
                        have hf3 : fold rf n rs 0 (k + 1) = some i := by rw [hf2, hbf]; rfl
                        clear hf2 hbf
                        go_wp2_with (first | (go_at_call 10; go_must (refine HBE.out.mono ?_); rintro _ w1 ⟨rfl, hb1⟩))
                        go_roundw
                        case rel => exact ⟨k + 1, by omega, by rw [hf3]; rfl, by go_num, hbk.trans (hb1.mono hbk.size)⟩
                        case measure => simp [intOf]; omega
                      · rw [hbf] at HBE
                        have hf3 : fold rf n rs 0 (k + 1) = some k := by rw [hf2, hbf]; rfl
                        clear hf2 hbf
                        go_wp2_with (first | (go_at_call 10; go_must (refine HBE.out.mono ?_); rintro _ w1 ⟨rfl, hb1⟩))
                        go_roundw
                        case rel => exact ⟨k + 1, by omega, by rw [hf3]; rfl, by go_num, hbk.trans (hb1.mono hbk.size)⟩
                        case measure => simp [intOf]; omega
                  · rw [hpk] at b52
                    rw [hpk, if_pos rfl, earl_none] at hf1
                    clear hRR hRk hin
                    generalize hlp : pp bs (fold rf n rs 0 k) = lp
                    go_wp2_with fail
                    go_roundw
                    case rel => exact ⟨k + 1, by omega, by rw [hf1, hlp], by go_num, hbk⟩
                    case measure => simp [intOf]; omega
                · obtain rfl : n = k := by omega
                  have HLA := hide (lead_any _ L gS (2 * size) _ bs sp (HL.out.below hbk) rfl hm2 (HSP.out.below hbk))
                  rw [HLD.out] at HLA
                  have hl1 : World.cell? _ ⟨L, 1, none⟩ = some (.int .i64 n) := ((HL.out.below hbk).cell 1).trans rfl
                  have hl0 : World.cell? _ ⟨L, 0, none⟩ = some (.slice (some ⟨gR, 0, none⟩) n capR) := ((HL.out.below hbk).cell 0).trans rfl
                  have hLl := (HL.out.below hbk).ty.lt
                  have hns' := neq_same (pp bs (fold rf n rs 0 n))
                  generalize pp bs (fold rf n rs 0 n) = lp at HLA hns' ⊢
                  go_wp2_with (first | (go_at_call 11; go_must (refine HLA.out.mono ?_); rintro _ w1 ⟨rfl, hw1⟩; subst hw1))
                  go_loopw [225] (fun i wr => ∃ k : Nat, k ≤ n ∧ i = .int .i64 k ∧ Below WZ.heap.size WZ wr) (fun i _ => n - (intOf i).toNat)
                  case atStart => exact ⟨0, by omega, rfl, hbk⟩
                  case round =>
                    clear hbk HLA hl0 hl1 hns' hLl
                    obtain ⟨k, hk, rfl, hbk⟩ := hrel
                    by_cases hlt : k < n
                    · have hcg := (hbk.cell (p := ⟨gs, k, none⟩) HGT.out.lt).trans (HCE.out k hlt)
                      have hgl := Nat.lt_of_lt_of_le HGT.out.lt hbk.size
                      have hRk := (HR.out.below hbk) k hlt
                      have hbl := hRk.1.1
                      have b53 := hRk.1.2.2.2.2.2.2.1
                      have hltI : (k : Int) < n := by omega
                      have hl0 : World.cell? wr ⟨L, 0, none⟩ = some (.slice (some ⟨gR, 0, none⟩) n capR) := ((HL.out.below hbk).cell 0).trans rfl
                      have hLl := (HL.out.below hbk).ty.lt
                      have hgR := ty_of_owns HRW.out
                      have hgRl := Nat.lt_of_lt_of_le hgR.lt hbk.size
                      have hcR : World.cell? wr ⟨gR, k, none⟩ = some (.pointer (some ⟨bs k, 0, none⟩)) := by
                        rw [hbk.cell (p := ⟨gR, k, none⟩) hgR.lt, HRW.out.cellAt k (by omega)]
                        exact ptrs_get n bs k hlt
                      have hnk := neq_same (some ⟨bs k, 0, none⟩)
                      clear hRk hgR
                      go_wp2_with fail
                      go_roundw
                      case rel => exact ⟨k + 1, by omega, by go_num, hbk⟩
                      case measure => simp [intOf]; omega
                    · go_wp2_with fail
                      go_ret
                      exact ⟨rfl, hb.trans (hbk.mono hb.size)⟩
end Go.Proofs.Ybulkcnwo
