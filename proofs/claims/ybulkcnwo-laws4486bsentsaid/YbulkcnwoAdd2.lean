import Derived.Test.YbulkcnwoAdd
namespace Go.Proofs.Ybulkcnwo
open Go.RowKit
set_option maxHeartbeats 1000000 in
theorem add_grow_f (w : World) (B L gs b : Nat) (pr : Option Addr) (n capR t sl sc : Nat) (ps : Option Addr) (bs : Nat → Nat) (rs : Nat → R) (r : R) (cnt : Nat → Nat) (par : Int) (few many : Value) (rf : Bool) (hn : n ≤ 300) (hBL : B ≤ L) (hp0 : 0 ≤ par) (hp1 : par ≤ n) (hpn : n = 0 → pr = none) (hsl : sl = 2 * n)
    (hL : LineAt w L ⟨.slice pr n capR, n, par, 0, few, many, .slice ps sl sc, rf⟩) (hrow : w.ownsRow B 37 1 (.slice pr n capR) n (ptrs n bs)) (hR : Routes w n bs rs) (hT : RTy w n bs rs)
    (hC : CountAt w B few many t cnt) (ht : t ≤ 900000) (hcb : ∀ x, cnt x ≤ 90000)
    (hN : NewRoute w B b r) (hnb : ∀ i, i < n → bs i ≠ b) (hgs : Ty w gs 37) (hgr : pr ≠ some ⟨gs, 0, none⟩) (hpk : r.parked = false) :
    Calls Yba.prog 6 #[.pointer (some ⟨L, 0, none⟩), .pointer (some ⟨b, 0, none⟩)] w (AddPost w B L (n + 1) gs (upd bs n b) (upd rs n r) rf (upd cnt r.at' (cnt r.at' + 1)) (t + 10)) := by
  obtain ⟨i0, hi, hz0, hz1, hz2⟩ := info_parts info37
  have HGR := hide fun nq => grow_gen (w.drewN nq) B L pr n capR bs rs n par 0 few many (.slice ps sl sc) rf hn hpn hL hrow hR hT
  have HL := hide hL
  have HOW := hide hrow
  have HR := hide hR
  have HT := hide hT
  have HC := hide hC
  have HCB := hide hcb
  have HN := hide hN
  have HNB := hide hnb
  have HGS := hide hgs
  have hl0 : w.cell? ⟨L, 0, none⟩ = some (.slice pr n capR) := hL.cell 0
  have hl6 : w.cell? ⟨L, 6, none⟩ = some (.slice ps sl sc) := hL.cell 6
  have hdiv : (sl : Int).tdiv 2 = n := by rw [hsl, Int.tdiv_eq_ediv_of_nonneg (by omega)]; omega
  clear hL hrow hR hT hC hcb hN hnb hgs hsl hpn
  go_enter Yba.func6, Yba.ntmps6
  go_wp2_with fail
  go_quiet (fail)
  go_upto_region 2 with (go_at_call 13; go_must (refine (HGR.out nq).mono ?_); rintro _ wA ⟨vA, gS, size, ee, sp, rfl, hee, hns, hsz, hkA, hgS, hLA, hSA, hIA, hTA⟩; have HEE := hide hee; have HI := hide hIA; have HTr := hide hTA; have HKL : Hid (Keep (fun k => k = L) w wA) := ⟨hkA.os, hkA.tape, hkA.output, hkA.size, hkA.block⟩; have HLA := hide hLA; have HSA := hide hSA; have HGSZ : Hid (w.heap.size ≤ gS) := hgS; clear hee hkA hgS hLA hSA hIA hTA)
  have hBS : B ≤ gS := by have := HGSZ.out; have := HL.out.ty.lt; omega
  have HKA : Hid (Keep (fun k => B ≤ k ∧ k ≠ gs) w wA) := HKL.out.mono (fun k _ e => by subst e; exact ⟨hBL, HL.out.ty.ne HGS.out (by decide)⟩)
  have HNA : Hid (NewRoute wA B b r) := ⟨HN.out.1.keep HKL.out (fun e => HN.out.2.2.1.ne HL.out.ty (by decide) e) (fun c g tt e e' => (HN.out.2.2.2.2 c g tt e).ne HL.out.ty (by decide) e'), HN.out.2.1, HN.out.2.2.1.keep HKL.out (fun e => HN.out.2.2.1.ne HL.out.ty (by decide) e), HN.out.2.2.2.1, fun c g tt e => (HN.out.2.2.2.2 c g tt e).keep HKL.out (fun e' => (HN.out.2.2.2.2 c g tt e).ne HL.out.ty (by decide) e')⟩
  have HOA : Hid (wA.ownsRow B 37 1 (.slice pr n capR) n (ptrs n bs)) := owns_keep HOW.out HKL.out (fun g hg e => by
    have h := HOW.out
    rcases h.2 with ⟨h0, _⟩ | ⟨g', cap', cur, hv', -⟩
    · rw [h0] at hg; simp [Value.ownBlock] at hg
    · rw [hv'] at hg h
      simp [Value.ownBlock] at hg
      subst hg
      exact (ty_of_owns h).ne HL.out.ty (by decide) e)
  have HRA : Hid (Routes wA n bs rs) := HR.out.keep HT.out HKL.out (fun x hx e => hx.ne HL.out.ty (by decide) e) (fun x hx e => hx.ne HL.out.ty (by decide) e)
  have HTA : Hid (RTy wA n bs rs) := HT.out.keep HKL.out (fun x hx e => hx.ne HL.out.ty (by decide) e) (fun x hx e => hx.ne HL.out.ty (by decide) e)
  have HCA : Hid (CountAt wA B few many t cnt) := HC.out.keep HKL.out (fun g hg e => hg.ne HL.out.ty (by decide) e) (fun g hg e => by
    subst e
    obtain ⟨es, cl, h2⟩ := hg
    obtain ⟨cs, fr, h1⟩ := HL.out.ty
    rw [h1] at h2; cases h2)
  have HGA : Hid (Ty wA gs 37) := HGS.out.keep HKL.out (fun e => HGS.out.ne HL.out.ty (by decide) e)
  clear hl0 hl6
  have lA0 : wA.cell? ⟨L, 0, none⟩ = some (.slice pr n capR) := HLA.out.cell 0
  have lAb := HNA.out.1.1
  have lA53 := HNA.out.1.2.2.2.2.2.2.1
  have fA53 := HNA.out.1.2.2.2.2.2.2.2.2 53
  have hLlt := HLA.out.ty.lt
  have hLb : L ≠ b := HLA.out.ty.ne HNA.out.2.2.1 (by decide)
  go_upto_region 3 with fail
  have hX0K : Keep (fun k => k = b) wA (wA.setCell ⟨b, 53, none⟩ (.int .i64 n)) := (Keep.refl (fun k => k = b) wA).setCell (p := ⟨b, 53, none⟩) (.inl rfl) _
  have HX0R : Hid (RouteAt (wA.setCell ⟨b, 53, none⟩ (.int .i64 n)) b r n) := HNA.out.1.place
  have hbrow : ∀ g, pr = some ⟨g, 0, none⟩ → Ty wA g 37 := fun g hg => by
    have h := HOA.out
    rw [hg] at h
    exact ty_of_owns h
  have HX0O : Hid ((wA.setCell ⟨b, 53, none⟩ (.int .i64 n)).ownsRow B 37 1 (.slice pr n capR) n (ptrs n bs)) := owns_keep HOA.out hX0K (fun g hg e => by
    have h := HOA.out
    rcases h.2 with ⟨h0, _⟩ | ⟨g', cap', cur, hv', -⟩
    · rw [h0] at hg; simp [Value.ownBlock] at hg
    · rw [hv'] at hg h
      simp [Value.ownBlock] at hg
      subst hg
      exact (ty_of_owns h).ne HNA.out.2.2.1 (by decide) e)
  have HX0L : Hid (LineAt (wA.setCell ⟨b, 53, none⟩ (.int .i64 n)) L ⟨.slice pr n capR, n, par, 0, few, many, .slice (some ⟨gS, 0, none⟩) (2 * size) (2 * size), rf⟩) := HLA.out.keep hX0K hLb
  have HX0T : Hid (Ty (wA.setCell ⟨b, 53, none⟩ (.int .i64 n)) b 51) := HNA.out.2.2.1.setCell _ _
  have HX0K := hide hX0K
  clear hX0K lA0 lAb lA53 fA53
  generalize wA.setCell ⟨b, 53, none⟩ (.int .i64 n) = X0 at HX0K HX0R HX0O HX0L HX0T ⊢
  have lX0 : X0.cell? ⟨L, 0, none⟩ = some (.slice pr n capR) := HX0L.out.cell 0
  have hLlt0 := HX0L.out.ty.lt
  have hbd1 : n + 1 ≤ maxLen := by unfold maxLen; omega
  have hbd2 : (n + 1) * 8 ≤ 140737488355328 := by omega
  have hBX : B ≤ (X0.alloc (.cells #[.pointer (some ⟨b, 0, none⟩)] 37)).heap.size := by have := HX0L.out.ty.lt; simp; omega
  have hown_form : ∀ k, (Value.slice pr n capR).ownBlock = some k → pr = some ⟨k, 0, none⟩ := fun k hk => by
    rcases HX0O.out.2 with ⟨h0, _⟩ | ⟨g', cap', cur, hv', -⟩
    · rw [h0] at hk; simp [Value.ownBlock] at hk
    · rw [hv'] at hk
      simp [Value.ownBlock] at hk
      simp only [Value.slice.injEq, true_and] at hv'
      rw [hv'.1, hk]
  have HMK : Hid (∀ W1 : World, (X0.alloc (.cells #[.pointer (some ⟨b, 0, none⟩)] 37)).grownBy W1 (Value.slice pr n capR).ownBlock → Keep (fun k => pr = some ⟨k, 0, none⟩) X0 W1 ∧ LineAt W1 L ⟨.slice pr n capR, n, par, 0, few, many, .slice (some ⟨gS, 0, none⟩) (2 * size) (2 * size), rf⟩ ∧ RouteAt W1 b r n) := fun W1 hgr => by
    have hK1 : Keep (fun k => pr = some ⟨k, 0, none⟩) X0 W1 := ((Keep.refl (fun k => pr = some ⟨k, 0, none⟩) X0).alloc _).grown hgr (fun k e => .inl (hown_form k e))
    refine ⟨hK1, HX0L.out.keep hK1 (fun e => (hbrow L e).ne HLA.out.ty (by decide) rfl), HX0R.out.keep hK1 (fun e => (hbrow b e).ne HNA.out.2.2.1 (by decide) rfl) (fun c g t e e' => (hbrow c e').ne (HNA.out.2.2.2.2 c g t e) (by decide) rfl)⟩
  have hat12 : r.at' ≤ 12 := HNA.out.2.1.2.2.2.2.1
  have hcq := HCB.out r.at'
  have HCW : Hid (∀ W1 : World, Keep (fun k => pr = some ⟨k, 0, none⟩) X0 W1 → CountAt W1 B few many t cnt) := fun W1 hK1 => by
    refine (HCA.out.keep HX0K.out (fun g hg e => hg.ne HNA.out.2.2.1 (by decide) e) (fun g hg e => ?_)).keep hK1 (fun g hg e => ?_) (fun g hg e => ?_)
    · subst e
      obtain ⟨cs, fr, h1⟩ := HNA.out.2.2.1
      obtain ⟨es, cl, h2⟩ := hg
      rw [h1] at h2; cases h2
    · have := (hbrow g e).keep HX0K.out (fun e' => (hbrow g e).ne HNA.out.2.2.1 (by decide) e')
      exact hg.ne this (by decide) rfl
    · obtain ⟨cs, fr, h1⟩ := (hbrow g e).keep HX0K.out (fun e' => (hbrow g e).ne HNA.out.2.2.1 (by decide) e')
      obtain ⟨es, cl, h2⟩ := hg
      rw [h1] at h2; cases h2
  have HCNT : Hid (∀ (W1 : World) (g2 cap2 : Nat), Keep (fun k => pr = some ⟨k, 0, none⟩) X0 W1 → LineAt W1 L ⟨.slice pr n capR, n, par, 0, few, many, .slice (some ⟨gS, 0, none⟩) (2 * size) (2 * size), rf⟩ → Calls Yba.prog 14 #[.pointer (some ⟨L, 0, none⟩), .string (nm r.at'), .int .i64 1] ((W1.setCell ⟨L, 0, none⟩ (.slice (some ⟨g2, 0, none⟩) (n + 1) cap2)).setCell ⟨L, 1, none⟩ (.int .i64 ((n : Int) + 1))) (SetPost ((W1.setCell ⟨L, 0, none⟩ (.slice (some ⟨g2, 0, none⟩) (n + 1) cap2)).setCell ⟨L, 1, none⟩ (.int .i64 ((n : Int) + 1))) B L ⟨.slice (some ⟨g2, 0, none⟩) (n + 1) cap2, (n : Int) + 1, par, 0, few, many, .slice (some ⟨gS, 0, none⟩) (2 * size) (2 * size), rf⟩ (t + 10) (upd cnt r.at' (cnt r.at' + 1)))) := fun W1 g2 cap2 hK1 hL1 => by
    have hK2 : Keep (fun k => k = L) W1 ((W1.setCell ⟨L, 0, none⟩ (.slice (some ⟨g2, 0, none⟩) (n + 1) cap2)).setCell ⟨L, 1, none⟩ (.int .i64 ((n : Int) + 1))) := ((Keep.refl (fun k => k = L) W1).setCell (p := ⟨L, 0, none⟩) (.inl rfl) _).setCell (p := ⟨L, 1, none⟩) (.inl rfl) _
    exact count_any _ B L t _ cnt r.at' (cnt r.at' + 1) 1 (by omega) (.inl rfl) hat12 (by omega) (fun x => by have := HCB.out x; omega) (by omega) ((hL1.setRoutes _).setHeld _) hBL ((HCW.out W1 hK1).keep hK2 (fun g hg e => hg.ne hL1.ty (by decide) e) (fun g hg e => by
      subst e
      obtain ⟨es, cl, h2⟩ := hg
      have h1 : W1.heap[g]? = some (.cells _ 33 (0, 0)) := hL1
      rw [h1] at h2; cases h2))
  have hp2 : IntKind.i64.wrap (par + 1) = par + 1 := by rw [IntKind.wrap_i64]; omega
  go_upto_region 10 with (first | (go_at_call 14; go_must (refine (HCNT.out W1 g2 cap2 HK1.out HL1.out).mono ?_); rintro _ w6 ⟨v6, few6, many6, rfl, hL6, hC6, hK6⟩; have HL6 := hide hL6; have HC6 := hide hC6; have HK6 := hide hK6; clear hL6 hC6 hK6) | (at_builtin; go_must (refine wpList_append_lies _ rfl (.tmp 30) (.tmp 32) 25 rfl B 37 i0 _ 1 8 Yba.underlying25 hi hz0 hz1 hz2 rfl (by decide) (.slice pr n capR) n (ptrs n bs) rfl (World.ownsRow.alloc HX0O.out _) ⟨X0.heap.size, 0, none⟩ 1 1 [.pointer (some ⟨b, 0, none⟩)] rfl rfl (one_new X0 _ _) (by simp [Value.oneCell']) (by decide) hbd1 hbd2 hBX _ rfl ?_); intro g2 cap2 W1 hown1 hgr1 hg21 hl21; obtain ⟨hK1, hL1, hR1⟩ := HMK.out W1 hgr1; have c0 : W1.cell? ⟨L, 0, none⟩ = some (.slice pr n capR) := hL1.cell 0; have f0 := hL1.frozen 0; have c1 : W1.cell? ⟨L, 1, none⟩ = some (.int .i64 n) := hL1.cell 1; have f1 := hL1.frozen 1; have c2 : W1.cell? ⟨L, 2, none⟩ = some (.int .i64 par) := hL1.cell 2; have f2 := hL1.frozen 2; have hl1 := hL1.ty.lt; have hb1 := hR1.1; have b52 := hR1.2.2.2.1; have b45 := hR1.2.2.2.2.2.1; have b36 := hR1.2.2.2.2.2.2.2.1; have HO1 := hide hown1; have HAT := hide hg21; have HK1 := hide hK1; have HL1 := hide hL1; have HR1 := hide hR1; clear hgr1 hown1 hg21 hl21 hK1 hL1 hR1))
  clear c0 f0 c1 f1 c2 f2 b52 b45 b36
  have hL1t := HL1.out.ty
  have hK2 : Keep (fun k => k = L) W1 ((W1.setCell ⟨L, 0, none⟩ (.slice (some ⟨g2, 0, none⟩) (n + 1) cap2)).setCell ⟨L, 1, none⟩ (.int .i64 ((n : Int) + 1))) := ((Keep.refl (fun k => k = L) W1).setCell (p := ⟨L, 0, none⟩) (.inl rfl) _).setCell (p := ⟨L, 1, none⟩) (.inl rfl) _
  have HLX : Hid (LineAt ((W1.setCell ⟨L, 0, none⟩ (.slice (some ⟨g2, 0, none⟩) (n + 1) cap2)).setCell ⟨L, 1, none⟩ (.int .i64 ((n : Int) + 1))) L ⟨.slice (some ⟨g2, 0, none⟩) (n + 1) cap2, (n : Int) + 1, par, 0, few, many, .slice (some ⟨gS, 0, none⟩) (2 * size) (2 * size), rf⟩) := (HL1.out.setRoutes _).setHeld _
  have HK2 := hide hK2
  clear hK2
  generalize ((W1.setCell ⟨L, 0, none⟩ (.slice (some ⟨g2, 0, none⟩) (n + 1) cap2)).setCell ⟨L, 1, none⟩ (.int .i64 ((n : Int) + 1))) = X2 at HK2 HLX HK6
  have hK02 : ∀ k, k < wA.heap.size → k ≠ b → pr ≠ some ⟨k, 0, none⟩ → k ≠ L → X2.heap[k]? = wA.heap[k]? := fun k hk h1 h2 h3 =>
    (HK2.out.block k (Nat.lt_of_lt_of_le hk (Nat.le_trans HX0K.out.size HK1.out.size)) h3).trans ((HK1.out.block k (Nat.lt_of_lt_of_le hk HX0K.out.size) h2).trans (HX0K.out.block k hk h1))
  have hKT : Keep (fun k => k = b ∨ pr = some ⟨k, 0, none⟩ ∨ Sc wA B L k) wA w6 := by
    refine ⟨HK6.out.os.trans (HK2.out.os.trans (HK1.out.os.trans HX0K.out.os)), HK6.out.tape.trans (HK2.out.tape.trans (HK1.out.tape.trans HX0K.out.tape)), HK6.out.output.trans (HK2.out.output.trans (HK1.out.output.trans HX0K.out.output)), Nat.le_trans HX0K.out.size (Nat.le_trans HK1.out.size (Nat.le_trans HK2.out.size HK6.out.size)), fun k hk hs => ?_⟩
    have h1 : k ≠ b := fun e => hs (.inl e)
    have h2 : pr ≠ some ⟨k, 0, none⟩ := fun e => hs (.inr (.inl e))
    have h3 : k ≠ L := fun e => hs (.inr (.inr ⟨e ▸ hBL, .inl e⟩))
    have e := hK02 k hk h1 h2 h3
    refine (HK6.out.block k (Nat.lt_of_lt_of_le hk (Nat.le_trans HX0K.out.size (Nat.le_trans HK1.out.size HK2.out.size))) (fun hsc => hs (.inr (.inr ?_)))).trans e
    obtain ⟨s1, s2⟩ := hsc
    refine ⟨s1, ?_⟩
    rcases s2 with s2 | ⟨cs, fr, s2⟩ | ⟨es, cl, s2⟩
    · exact .inl s2
    · exact .inr (.inl ⟨cs, fr, e ▸ s2⟩)
    · exact .inr (.inr ⟨es, cl, e ▸ s2⟩)
  have hnT : ∀ k tt, Ty wA k tt → tt ≠ 33 → tt ≠ 74 → tt ≠ 37 → k ≠ b → ¬ (k = b ∨ pr = some ⟨k, 0, none⟩ ∨ Sc wA B L k) := fun k tt hk t1 t2 t3 hb hs => by
    rcases hs with hs | hs | hs
    · exact hb hs
    · exact hk.ne (hbrow k hs) t3 rfl
    · exact not_Sc HLA.out hk t1 t2 hs
  have hbT := HNA.out.2.2.1
  have HR6 : Hid (Routes w6 n bs rs) := HRA.out.keepI hKT (fun i hi => hnT _ 51 (HTA.out i hi).1 (by decide) (by decide) (by decide) (HNB.out i hi)) (fun i hi c g tt e => hnT _ 54 ((HTA.out i hi).2 c g tt e) (by decide) (by decide) (by decide) (((HTA.out i hi).2 c g tt e).ne hbT (by decide)))
  have HT6 : Hid (RTy w6 n bs rs) := HTA.out.keepI hKT (fun i hi => hnT _ 51 (HTA.out i hi).1 (by decide) (by decide) (by decide) (HNB.out i hi)) (fun i hi c g tt e => hnT _ 54 ((HTA.out i hi).2 c g tt e) (by decide) (by decide) (by decide) (((HTA.out i hi).2 c g tt e).ne hbT (by decide)))
  have hbT1 : Ty W1 b 51 := HX0T.out.keep HK1.out (fun e => (hbrow b e).ne hbT (by decide) rfl)
  have hbT2 : Ty X2 b 51 := hbT1.keep HK2.out (Ne.symm hLb)
  have hbT6 : Ty w6 b 51 := hbT2.keep HK6.out (not_Sc HLX.out hbT2 (by decide) (by decide))
  have hcT : ∀ c g tt, r.beat = some (c, g, tt) → Ty wA c 54 := HNA.out.2.2.2.2
  have hcT1 : ∀ c g tt, r.beat = some (c, g, tt) → Ty X2 c 54 := fun c g tt e => by
    have h1 := hcT c g tt e
    obtain ⟨cs, fr, h2⟩ := h1
    exact ⟨cs, fr, (hK02 c (Ty.lt ⟨cs, fr, h2⟩) (Ty.ne ⟨cs, fr, h2⟩ hbT (by decide)) (fun e' => Ty.ne ⟨cs, fr, h2⟩ (hbrow c e') (by decide) rfl) (Ty.ne ⟨cs, fr, h2⟩ HLA.out.ty (by decide))).trans h2⟩
  have HRb : Hid (RouteAt w6 b r n) := (HR1.out.keep HK2.out (Ne.symm hLb) (fun c g tt e e' => (hcT1 c g tt e).ne HLX.out.ty (by decide) e')).keep HK6.out (not_Sc HLX.out hbT2 (by decide) (by decide)) (fun c g tt e => not_Sc HLX.out (hcT1 c g tt e) (by decide) (by decide))
  have HR7 : Hid (Routes w6 (n + 1) (upd bs n b) (upd rs n r)) := fun i hi => by
    by_cases e : i = n
    · subst e; rw [upd_same, upd_same]; exact ⟨HRb.out, HNA.out.2.1⟩
    · rw [upd_other _ _ e, upd_other _ _ e]; exact HR6.out i (by omega)
  have HT7 : Hid (RTy w6 (n + 1) (upd bs n b) (upd rs n r)) := fun i hi => by
    by_cases e : i = n
    · subst e; rw [upd_same, upd_same]; exact ⟨hbT6, fun c g tt e => (hcT1 c g tt e).keep HK6.out (not_Sc HLX.out (hcT1 c g tt e) (by decide) (by decide))⟩
    · rw [upd_other _ _ e, upd_other _ _ e]; exact HT6.out i (by omega)
  have hO1 := HO1.out
  rw [ptrs_more] at hO1
  have hO2 := owns_keep hO1 HK2.out (fun g hg e => by
    simp [Value.ownBlock] at hg
    subst hg; subst e
    exact (ty_of_owns hO1).ne hL1t (by decide) rfl)
  have hO6 := owns_keep hO2 HK6.out (fun g hg => by
    simp [Value.ownBlock] at hg
    subst hg
    exact not_Sc HLX.out (ty_of_owns hO2) (by decide) (by decide))
  have HO6 := hide hO6
  have HS6 : Hid (Spans w6 gS (2 * size) (upd bs n b) sp) := (HSA.out.keep hKT (hnT _ 67 HSA.out.1 (by decide) (by decide) (by decide) (HSA.out.1.ne hbT (by decide)))).congr HI.out (fun i hi => upd_other _ _ (by omega))
  have HI6 : Hid (∀ k, k < 2 * size → (sp k).In (n + 1)) := fun k hk => (HI.out k hk).mono (by omega)
  have HTM := hide (HTr.out.more HI.out r)
  have c53 : w6.cell? ⟨b, 53, none⟩ = some (.int .i64 n) := HRb.out.2.2.2.2.2.2.1
  have H7 := hide (note_any w6 L g2 gS (n + 1) cap2 size n (upd bs n b) (upd rs n r) sp ((n : Int) + 1) par 0 few6 many6 rf HL6.out (ty_of_owns hO6) (fun k hk => by rw [HO6.out.cellAt k (by omega)]; exact ptrs_get _ _ k hk) HR7.out HT7.out HS6.out HI6.out (by omega) (by omega) hsz HTM.out.1 HTM.out.2)
  have HKT := hide hKT
  have hg2 : g2 ≠ gs := by
    rcases HAT.out with e | e
    · intro e'; subst e'; exact hgr (hown_form g2 e)
    · have := HGA.out.lt; have := HX0K.out.size; simp at e; omega
  have hbL6 := HRb.out.1
  clear hO1 hO2 hO6 hKT hK02 hL1t
  go_wp2_with (go_at_call 15; go_must (refine H7.out.mono ?_); rintro _ w7 ⟨v7, rfl, sp', hK7, hS7, hI7, hT7⟩; have HQ := hide (And.intro hK7 (And.intro hS7 (And.intro hI7 hT7))); clear hK7 hS7 hI7 hT7)
  obtain ⟨hK7, hS7, hI7, hT7⟩ := HQ.out
  have hLS : L ≠ gS := HL6.out.ty.ne HS6.out.1 (by decide)
  refine bodyPost_end (v := .tuple #[]) (by simp [results, Yba.results6]) rfl ⟨_, g2, rfl, ⟨cap2, gS, size, ee, sp', few6, many6, par, ?_, ?_, ?_, ?_, hBS, hS7, hI7, hT7, HEE.out, by omega, hsz, ?_, by omega, by omega⟩, hg2, ?_⟩
  · have := HL6.out.keep hK7 hLS
    simpa using this
  · exact owns_keep HO6.out hK7 (fun g hg e => by
      simp [Value.ownBlock] at hg
      subst hg
      exact (ty_of_owns HO6.out).ne HS6.out.1 (by decide) e)
  · exact HR7.out.keep HT7.out hK7 (fun x hx e => hx.ne HS6.out.1 (by decide) e) (fun x hx e => hx.ne HS6.out.1 (by decide) e)
  · exact HT7.out.keep hK7 (fun x hx e => hx.ne HS6.out.1 (by decide) e) (fun x hx e => hx.ne HS6.out.1 (by decide) e)
  · exact HC6.out.keep hK7 (fun g hg e => hg.ne HS6.out.1 (by decide) e) (fun g hg e => by
      subst e
      obtain ⟨cs, fr, h1⟩ := HS6.out.1
      obtain ⟨es, cl, h2⟩ := hg
      rw [h1] at h2; cases h2)
  · refine (HKA.out.trans' HKT.out (fun x hx e => ?_)).trans' hK7 (fun x hx e => ?_)
    · rcases e with e | e | e
      · subst e; exact ⟨HNA.out.2.2.2.1, hbT.ne HGA.out (by decide)⟩
      · refine ⟨?_, fun e' => hgr (e' ▸ e)⟩
        have h := HOA.out
        rw [e] at h
        exact (h.lt x rfl).1
      · exact ⟨e.1, fun e' => not_Sc HLA.out (e' ▸ HGA.out) (by decide) (by decide) e⟩
    · subst e
      exact ⟨hBS, HSA.out.1.ne HGA.out (by decide)⟩
set_option maxHeartbeats 1000000 in
theorem add_grow_t (w : World) (B L gs b : Nat) (pr : Option Addr) (n capR t sl sc : Nat) (ps : Option Addr) (bs : Nat → Nat) (rs : Nat → R) (r : R) (cnt : Nat → Nat) (par : Int) (few many : Value) (rf : Bool) (hn : n ≤ 300) (hBL : B ≤ L) (hp0 : 0 ≤ par) (hp1 : par ≤ n) (hpn : n = 0 → pr = none) (hsl : sl = 2 * n)
    (hL : LineAt w L ⟨.slice pr n capR, n, par, 0, few, many, .slice ps sl sc, rf⟩) (hrow : w.ownsRow B 37 1 (.slice pr n capR) n (ptrs n bs)) (hR : Routes w n bs rs) (hT : RTy w n bs rs)
    (hC : CountAt w B few many t cnt) (ht : t ≤ 900000) (hcb : ∀ x, cnt x ≤ 90000)
    (hN : NewRoute w B b r) (hnb : ∀ i, i < n → bs i ≠ b) (hgs : Ty w gs 37) (hgr : pr ≠ some ⟨gs, 0, none⟩) (hpk : r.parked = true) :
    Calls Yba.prog 6 #[.pointer (some ⟨L, 0, none⟩), .pointer (some ⟨b, 0, none⟩)] w (AddPost w B L (n + 1) gs (upd bs n b) (upd rs n r) rf (upd cnt r.at' (cnt r.at' + 1)) (t + 10)) := by
  obtain ⟨i0, hi, hz0, hz1, hz2⟩ := info_parts info37
  have HGR := hide fun nq => grow_gen (w.drewN nq) B L pr n capR bs rs n par 0 few many (.slice ps sl sc) rf hn hpn hL hrow hR hT
  have HL := hide hL
  have HOW := hide hrow
  have HR := hide hR
  have HT := hide hT
  have HC := hide hC
  have HCB := hide hcb
  have HN := hide hN
  have HNB := hide hnb
  have HGS := hide hgs
  have hl0 : w.cell? ⟨L, 0, none⟩ = some (.slice pr n capR) := hL.cell 0
  have hl6 : w.cell? ⟨L, 6, none⟩ = some (.slice ps sl sc) := hL.cell 6
  have hdiv : (sl : Int).tdiv 2 = n := by rw [hsl, Int.tdiv_eq_ediv_of_nonneg (by omega)]; omega
  clear hL hrow hR hT hC hcb hN hnb hgs hsl hpn
  go_enter Yba.func6, Yba.ntmps6
  go_wp2_with fail
  go_quiet (fail)
  go_upto_region 2 with (go_at_call 13; go_must (refine (HGR.out nq).mono ?_); rintro _ wA ⟨vA, gS, size, ee, sp, rfl, hee, hns, hsz, hkA, hgS, hLA, hSA, hIA, hTA⟩; have HEE := hide hee; have HI := hide hIA; have HTr := hide hTA; have HKL : Hid (Keep (fun k => k = L) w wA) := ⟨hkA.os, hkA.tape, hkA.output, hkA.size, hkA.block⟩; have HLA := hide hLA; have HSA := hide hSA; have HGSZ : Hid (w.heap.size ≤ gS) := hgS; clear hee hkA hgS hLA hSA hIA hTA)
  have hBS : B ≤ gS := by have := HGSZ.out; have := HL.out.ty.lt; omega
  have HKA : Hid (Keep (fun k => B ≤ k ∧ k ≠ gs) w wA) := HKL.out.mono (fun k _ e => by subst e; exact ⟨hBL, HL.out.ty.ne HGS.out (by decide)⟩)
  have HNA : Hid (NewRoute wA B b r) := ⟨HN.out.1.keep HKL.out (fun e => HN.out.2.2.1.ne HL.out.ty (by decide) e) (fun c g tt e e' => (HN.out.2.2.2.2 c g tt e).ne HL.out.ty (by decide) e'), HN.out.2.1, HN.out.2.2.1.keep HKL.out (fun e => HN.out.2.2.1.ne HL.out.ty (by decide) e), HN.out.2.2.2.1, fun c g tt e => (HN.out.2.2.2.2 c g tt e).keep HKL.out (fun e' => (HN.out.2.2.2.2 c g tt e).ne HL.out.ty (by decide) e')⟩
  have HOA : Hid (wA.ownsRow B 37 1 (.slice pr n capR) n (ptrs n bs)) := owns_keep HOW.out HKL.out (fun g hg e => by
    have h := HOW.out
    rcases h.2 with ⟨h0, _⟩ | ⟨g', cap', cur, hv', -⟩
    · rw [h0] at hg; simp [Value.ownBlock] at hg
    · rw [hv'] at hg h
      simp [Value.ownBlock] at hg
      subst hg
      exact (ty_of_owns h).ne HL.out.ty (by decide) e)
  have HRA : Hid (Routes wA n bs rs) := HR.out.keep HT.out HKL.out (fun x hx e => hx.ne HL.out.ty (by decide) e) (fun x hx e => hx.ne HL.out.ty (by decide) e)
  have HTA : Hid (RTy wA n bs rs) := HT.out.keep HKL.out (fun x hx e => hx.ne HL.out.ty (by decide) e) (fun x hx e => hx.ne HL.out.ty (by decide) e)
  have HCA : Hid (CountAt wA B few many t cnt) := HC.out.keep HKL.out (fun g hg e => hg.ne HL.out.ty (by decide) e) (fun g hg e => by
    subst e
    obtain ⟨es, cl, h2⟩ := hg
    obtain ⟨cs, fr, h1⟩ := HL.out.ty
    rw [h1] at h2; cases h2)
  have HGA : Hid (Ty wA gs 37) := HGS.out.keep HKL.out (fun e => HGS.out.ne HL.out.ty (by decide) e)
  clear hl0 hl6
  have lA0 : wA.cell? ⟨L, 0, none⟩ = some (.slice pr n capR) := HLA.out.cell 0
  have lAb := HNA.out.1.1
  have lA53 := HNA.out.1.2.2.2.2.2.2.1
  have fA53 := HNA.out.1.2.2.2.2.2.2.2.2 53
  have hLlt := HLA.out.ty.lt
  have hLb : L ≠ b := HLA.out.ty.ne HNA.out.2.2.1 (by decide)
  go_upto_region 3 with fail
  have hX0K : Keep (fun k => k = b) wA (wA.setCell ⟨b, 53, none⟩ (.int .i64 n)) := (Keep.refl (fun k => k = b) wA).setCell (p := ⟨b, 53, none⟩) (.inl rfl) _
  have HX0R : Hid (RouteAt (wA.setCell ⟨b, 53, none⟩ (.int .i64 n)) b r n) := HNA.out.1.place
  have hbrow : ∀ g, pr = some ⟨g, 0, none⟩ → Ty wA g 37 := fun g hg => by
    have h := HOA.out
    rw [hg] at h
    exact ty_of_owns h
  have HX0O : Hid ((wA.setCell ⟨b, 53, none⟩ (.int .i64 n)).ownsRow B 37 1 (.slice pr n capR) n (ptrs n bs)) := owns_keep HOA.out hX0K (fun g hg e => by
    have h := HOA.out
    rcases h.2 with ⟨h0, _⟩ | ⟨g', cap', cur, hv', -⟩
    · rw [h0] at hg; simp [Value.ownBlock] at hg
    · rw [hv'] at hg h
      simp [Value.ownBlock] at hg
      subst hg
      exact (ty_of_owns h).ne HNA.out.2.2.1 (by decide) e)
  have HX0L : Hid (LineAt (wA.setCell ⟨b, 53, none⟩ (.int .i64 n)) L ⟨.slice pr n capR, n, par, 0, few, many, .slice (some ⟨gS, 0, none⟩) (2 * size) (2 * size), rf⟩) := HLA.out.keep hX0K hLb
  have HX0T : Hid (Ty (wA.setCell ⟨b, 53, none⟩ (.int .i64 n)) b 51) := HNA.out.2.2.1.setCell _ _
  have HX0K := hide hX0K
  clear hX0K lA0 lAb lA53 fA53
  generalize wA.setCell ⟨b, 53, none⟩ (.int .i64 n) = X0 at HX0K HX0R HX0O HX0L HX0T ⊢
  have lX0 : X0.cell? ⟨L, 0, none⟩ = some (.slice pr n capR) := HX0L.out.cell 0
  have hLlt0 := HX0L.out.ty.lt
  have hbd1 : n + 1 ≤ maxLen := by unfold maxLen; omega
  have hbd2 : (n + 1) * 8 ≤ 140737488355328 := by omega
  have hBX : B ≤ (X0.alloc (.cells #[.pointer (some ⟨b, 0, none⟩)] 37)).heap.size := by have := HX0L.out.ty.lt; simp; omega
  have hown_form : ∀ k, (Value.slice pr n capR).ownBlock = some k → pr = some ⟨k, 0, none⟩ := fun k hk => by
    rcases HX0O.out.2 with ⟨h0, _⟩ | ⟨g', cap', cur, hv', -⟩
    · rw [h0] at hk; simp [Value.ownBlock] at hk
    · rw [hv'] at hk
      simp [Value.ownBlock] at hk
      simp only [Value.slice.injEq, true_and] at hv'
      rw [hv'.1, hk]
  have HMK : Hid (∀ W1 : World, (X0.alloc (.cells #[.pointer (some ⟨b, 0, none⟩)] 37)).grownBy W1 (Value.slice pr n capR).ownBlock → Keep (fun k => pr = some ⟨k, 0, none⟩) X0 W1 ∧ LineAt W1 L ⟨.slice pr n capR, n, par, 0, few, many, .slice (some ⟨gS, 0, none⟩) (2 * size) (2 * size), rf⟩ ∧ RouteAt W1 b r n) := fun W1 hgr => by
    have hK1 : Keep (fun k => pr = some ⟨k, 0, none⟩) X0 W1 := ((Keep.refl (fun k => pr = some ⟨k, 0, none⟩) X0).alloc _).grown hgr (fun k e => .inl (hown_form k e))
    refine ⟨hK1, HX0L.out.keep hK1 (fun e => (hbrow L e).ne HLA.out.ty (by decide) rfl), HX0R.out.keep hK1 (fun e => (hbrow b e).ne HNA.out.2.2.1 (by decide) rfl) (fun c g t e e' => (hbrow c e').ne (HNA.out.2.2.2.2 c g t e) (by decide) rfl)⟩
  have hat12 : r.at' ≤ 12 := HNA.out.2.1.2.2.2.2.1
  have hcq := HCB.out r.at'
  have HCW : Hid (∀ W1 : World, Keep (fun k => pr = some ⟨k, 0, none⟩) X0 W1 → CountAt W1 B few many t cnt) := fun W1 hK1 => by
    refine (HCA.out.keep HX0K.out (fun g hg e => hg.ne HNA.out.2.2.1 (by decide) e) (fun g hg e => ?_)).keep hK1 (fun g hg e => ?_) (fun g hg e => ?_)
    · subst e
      obtain ⟨cs, fr, h1⟩ := HNA.out.2.2.1
      obtain ⟨es, cl, h2⟩ := hg
      rw [h1] at h2; cases h2
    · have := (hbrow g e).keep HX0K.out (fun e' => (hbrow g e).ne HNA.out.2.2.1 (by decide) e')
      exact hg.ne this (by decide) rfl
    · obtain ⟨cs, fr, h1⟩ := (hbrow g e).keep HX0K.out (fun e' => (hbrow g e).ne HNA.out.2.2.1 (by decide) e')
      obtain ⟨es, cl, h2⟩ := hg
      rw [h1] at h2; cases h2
  have HCNT : Hid (∀ (W1 : World) (g2 cap2 : Nat), Keep (fun k => pr = some ⟨k, 0, none⟩) X0 W1 → LineAt W1 L ⟨.slice pr n capR, n, par, 0, few, many, .slice (some ⟨gS, 0, none⟩) (2 * size) (2 * size), rf⟩ → Calls Yba.prog 14 #[.pointer (some ⟨L, 0, none⟩), .string (nm r.at'), .int .i64 1] (((W1.setCell ⟨L, 0, none⟩ (.slice (some ⟨g2, 0, none⟩) (n + 1) cap2)).setCell ⟨L, 1, none⟩ (.int .i64 ((n : Int) + 1))).setCell ⟨L, 2, none⟩ (.int .i64 (par + 1))) (SetPost (((W1.setCell ⟨L, 0, none⟩ (.slice (some ⟨g2, 0, none⟩) (n + 1) cap2)).setCell ⟨L, 1, none⟩ (.int .i64 ((n : Int) + 1))).setCell ⟨L, 2, none⟩ (.int .i64 (par + 1))) B L ⟨.slice (some ⟨g2, 0, none⟩) (n + 1) cap2, (n : Int) + 1, (par + 1), 0, few, many, .slice (some ⟨gS, 0, none⟩) (2 * size) (2 * size), rf⟩ (t + 10) (upd cnt r.at' (cnt r.at' + 1)))) := fun W1 g2 cap2 hK1 hL1 => by
    have hK2 : Keep (fun k => k = L) W1 (((W1.setCell ⟨L, 0, none⟩ (.slice (some ⟨g2, 0, none⟩) (n + 1) cap2)).setCell ⟨L, 1, none⟩ (.int .i64 ((n : Int) + 1))).setCell ⟨L, 2, none⟩ (.int .i64 (par + 1))) := (((Keep.refl (fun k => k = L) W1).setCell (p := ⟨L, 0, none⟩) (.inl rfl) _).setCell (p := ⟨L, 1, none⟩) (.inl rfl) _).setCell (p := ⟨L, 2, none⟩) (.inl rfl) _
    exact count_any _ B L t _ cnt r.at' (cnt r.at' + 1) 1 (by omega) (.inl rfl) hat12 (by omega) (fun x => by have := HCB.out x; omega) (by omega) (((hL1.setRoutes _).setHeld _).setParked _) hBL ((HCW.out W1 hK1).keep hK2 (fun g hg e => hg.ne hL1.ty (by decide) e) (fun g hg e => by
      subst e
      obtain ⟨es, cl, h2⟩ := hg
      have h1 : W1.heap[g]? = some (.cells _ 33 (0, 0)) := hL1
      rw [h1] at h2; cases h2))
  have hp2 : IntKind.i64.wrap (par + 1) = par + 1 := by rw [IntKind.wrap_i64]; omega
  go_upto_region 10 with (first | (go_at_call 14; go_must (refine (HCNT.out W1 g2 cap2 HK1.out HL1.out).mono ?_); rintro _ w6 ⟨v6, few6, many6, rfl, hL6, hC6, hK6⟩; have HL6 := hide hL6; have HC6 := hide hC6; have HK6 := hide hK6; clear hL6 hC6 hK6) | (at_builtin; go_must (refine wpList_append_lies _ rfl (.tmp 30) (.tmp 32) 25 rfl B 37 i0 _ 1 8 Yba.underlying25 hi hz0 hz1 hz2 rfl (by decide) (.slice pr n capR) n (ptrs n bs) rfl (World.ownsRow.alloc HX0O.out _) ⟨X0.heap.size, 0, none⟩ 1 1 [.pointer (some ⟨b, 0, none⟩)] rfl rfl (one_new X0 _ _) (by simp [Value.oneCell']) (by decide) hbd1 hbd2 hBX _ rfl ?_); intro g2 cap2 W1 hown1 hgr1 hg21 hl21; obtain ⟨hK1, hL1, hR1⟩ := HMK.out W1 hgr1; have c0 : W1.cell? ⟨L, 0, none⟩ = some (.slice pr n capR) := hL1.cell 0; have f0 := hL1.frozen 0; have c1 : W1.cell? ⟨L, 1, none⟩ = some (.int .i64 n) := hL1.cell 1; have f1 := hL1.frozen 1; have c2 : W1.cell? ⟨L, 2, none⟩ = some (.int .i64 par) := hL1.cell 2; have f2 := hL1.frozen 2; have hl1 := hL1.ty.lt; have hb1 := hR1.1; have b52 := hR1.2.2.2.1; have b45 := hR1.2.2.2.2.2.1; have b36 := hR1.2.2.2.2.2.2.2.1; have HO1 := hide hown1; have HAT := hide hg21; have HK1 := hide hK1; have HL1 := hide hL1; have HR1 := hide hR1; clear hgr1 hown1 hg21 hl21 hK1 hL1 hR1))
  clear c0 f0 c1 f1 c2 f2 b52 b45 b36
  have hL1t := HL1.out.ty
  have hK2 : Keep (fun k => k = L) W1 (((W1.setCell ⟨L, 0, none⟩ (.slice (some ⟨g2, 0, none⟩) (n + 1) cap2)).setCell ⟨L, 1, none⟩ (.int .i64 ((n : Int) + 1))).setCell ⟨L, 2, none⟩ (.int .i64 (par + 1))) := (((Keep.refl (fun k => k = L) W1).setCell (p := ⟨L, 0, none⟩) (.inl rfl) _).setCell (p := ⟨L, 1, none⟩) (.inl rfl) _).setCell (p := ⟨L, 2, none⟩) (.inl rfl) _
  have HLX : Hid (LineAt (((W1.setCell ⟨L, 0, none⟩ (.slice (some ⟨g2, 0, none⟩) (n + 1) cap2)).setCell ⟨L, 1, none⟩ (.int .i64 ((n : Int) + 1))).setCell ⟨L, 2, none⟩ (.int .i64 (par + 1))) L ⟨.slice (some ⟨g2, 0, none⟩) (n + 1) cap2, (n : Int) + 1, (par + 1), 0, few, many, .slice (some ⟨gS, 0, none⟩) (2 * size) (2 * size), rf⟩) := ((HL1.out.setRoutes _).setHeld _).setParked _
  have HK2 := hide hK2
  clear hK2
  generalize (((W1.setCell ⟨L, 0, none⟩ (.slice (some ⟨g2, 0, none⟩) (n + 1) cap2)).setCell ⟨L, 1, none⟩ (.int .i64 ((n : Int) + 1))).setCell ⟨L, 2, none⟩ (.int .i64 (par + 1))) = X2 at HK2 HLX HK6
  have hK02 : ∀ k, k < wA.heap.size → k ≠ b → pr ≠ some ⟨k, 0, none⟩ → k ≠ L → X2.heap[k]? = wA.heap[k]? := fun k hk h1 h2 h3 =>
    (HK2.out.block k (Nat.lt_of_lt_of_le hk (Nat.le_trans HX0K.out.size HK1.out.size)) h3).trans ((HK1.out.block k (Nat.lt_of_lt_of_le hk HX0K.out.size) h2).trans (HX0K.out.block k hk h1))
  have hKT : Keep (fun k => k = b ∨ pr = some ⟨k, 0, none⟩ ∨ Sc wA B L k) wA w6 := by
    refine ⟨HK6.out.os.trans (HK2.out.os.trans (HK1.out.os.trans HX0K.out.os)), HK6.out.tape.trans (HK2.out.tape.trans (HK1.out.tape.trans HX0K.out.tape)), HK6.out.output.trans (HK2.out.output.trans (HK1.out.output.trans HX0K.out.output)), Nat.le_trans HX0K.out.size (Nat.le_trans HK1.out.size (Nat.le_trans HK2.out.size HK6.out.size)), fun k hk hs => ?_⟩
    have h1 : k ≠ b := fun e => hs (.inl e)
    have h2 : pr ≠ some ⟨k, 0, none⟩ := fun e => hs (.inr (.inl e))
    have h3 : k ≠ L := fun e => hs (.inr (.inr ⟨e ▸ hBL, .inl e⟩))
    have e := hK02 k hk h1 h2 h3
    refine (HK6.out.block k (Nat.lt_of_lt_of_le hk (Nat.le_trans HX0K.out.size (Nat.le_trans HK1.out.size HK2.out.size))) (fun hsc => hs (.inr (.inr ?_)))).trans e
    obtain ⟨s1, s2⟩ := hsc
    refine ⟨s1, ?_⟩
    rcases s2 with s2 | ⟨cs, fr, s2⟩ | ⟨es, cl, s2⟩
    · exact .inl s2
    · exact .inr (.inl ⟨cs, fr, e ▸ s2⟩)
    · exact .inr (.inr ⟨es, cl, e ▸ s2⟩)
  have hnT : ∀ k tt, Ty wA k tt → tt ≠ 33 → tt ≠ 74 → tt ≠ 37 → k ≠ b → ¬ (k = b ∨ pr = some ⟨k, 0, none⟩ ∨ Sc wA B L k) := fun k tt hk t1 t2 t3 hb hs => by
    rcases hs with hs | hs | hs
    · exact hb hs
    · exact hk.ne (hbrow k hs) t3 rfl
    · exact not_Sc HLA.out hk t1 t2 hs
  have hbT := HNA.out.2.2.1
  have HR6 : Hid (Routes w6 n bs rs) := HRA.out.keepI hKT (fun i hi => hnT _ 51 (HTA.out i hi).1 (by decide) (by decide) (by decide) (HNB.out i hi)) (fun i hi c g tt e => hnT _ 54 ((HTA.out i hi).2 c g tt e) (by decide) (by decide) (by decide) (((HTA.out i hi).2 c g tt e).ne hbT (by decide)))
  have HT6 : Hid (RTy w6 n bs rs) := HTA.out.keepI hKT (fun i hi => hnT _ 51 (HTA.out i hi).1 (by decide) (by decide) (by decide) (HNB.out i hi)) (fun i hi c g tt e => hnT _ 54 ((HTA.out i hi).2 c g tt e) (by decide) (by decide) (by decide) (((HTA.out i hi).2 c g tt e).ne hbT (by decide)))
  have hbT1 : Ty W1 b 51 := HX0T.out.keep HK1.out (fun e => (hbrow b e).ne hbT (by decide) rfl)
  have hbT2 : Ty X2 b 51 := hbT1.keep HK2.out (Ne.symm hLb)
  have hbT6 : Ty w6 b 51 := hbT2.keep HK6.out (not_Sc HLX.out hbT2 (by decide) (by decide))
  have hcT : ∀ c g tt, r.beat = some (c, g, tt) → Ty wA c 54 := HNA.out.2.2.2.2
  have hcT1 : ∀ c g tt, r.beat = some (c, g, tt) → Ty X2 c 54 := fun c g tt e => by
    have h1 := hcT c g tt e
    obtain ⟨cs, fr, h2⟩ := h1
    exact ⟨cs, fr, (hK02 c (Ty.lt ⟨cs, fr, h2⟩) (Ty.ne ⟨cs, fr, h2⟩ hbT (by decide)) (fun e' => Ty.ne ⟨cs, fr, h2⟩ (hbrow c e') (by decide) rfl) (Ty.ne ⟨cs, fr, h2⟩ HLA.out.ty (by decide))).trans h2⟩
  have HRb : Hid (RouteAt w6 b r n) := (HR1.out.keep HK2.out (Ne.symm hLb) (fun c g tt e e' => (hcT1 c g tt e).ne HLX.out.ty (by decide) e')).keep HK6.out (not_Sc HLX.out hbT2 (by decide) (by decide)) (fun c g tt e => not_Sc HLX.out (hcT1 c g tt e) (by decide) (by decide))
  have HR7 : Hid (Routes w6 (n + 1) (upd bs n b) (upd rs n r)) := fun i hi => by
    by_cases e : i = n
    · subst e; rw [upd_same, upd_same]; exact ⟨HRb.out, HNA.out.2.1⟩
    · rw [upd_other _ _ e, upd_other _ _ e]; exact HR6.out i (by omega)
  have HT7 : Hid (RTy w6 (n + 1) (upd bs n b) (upd rs n r)) := fun i hi => by
    by_cases e : i = n
    · subst e; rw [upd_same, upd_same]; exact ⟨hbT6, fun c g tt e => (hcT1 c g tt e).keep HK6.out (not_Sc HLX.out (hcT1 c g tt e) (by decide) (by decide))⟩
    · rw [upd_other _ _ e, upd_other _ _ e]; exact HT6.out i (by omega)
  have hO1 := HO1.out
  rw [ptrs_more] at hO1
  have hO2 := owns_keep hO1 HK2.out (fun g hg e => by
    simp [Value.ownBlock] at hg
    subst hg; subst e
    exact (ty_of_owns hO1).ne hL1t (by decide) rfl)
  have hO6 := owns_keep hO2 HK6.out (fun g hg => by
    simp [Value.ownBlock] at hg
    subst hg
    exact not_Sc HLX.out (ty_of_owns hO2) (by decide) (by decide))
  have HO6 := hide hO6
  have HS6 : Hid (Spans w6 gS (2 * size) (upd bs n b) sp) := (HSA.out.keep hKT (hnT _ 67 HSA.out.1 (by decide) (by decide) (by decide) (HSA.out.1.ne hbT (by decide)))).congr HI.out (fun i hi => upd_other _ _ (by omega))
  have HI6 : Hid (∀ k, k < 2 * size → (sp k).In (n + 1)) := fun k hk => (HI.out k hk).mono (by omega)
  have HTM := hide (HTr.out.more HI.out r)
  have c53 : w6.cell? ⟨b, 53, none⟩ = some (.int .i64 n) := HRb.out.2.2.2.2.2.2.1
  have H7 := hide (note_any w6 L g2 gS (n + 1) cap2 size n (upd bs n b) (upd rs n r) sp ((n : Int) + 1) (par + 1) 0 few6 many6 rf HL6.out (ty_of_owns hO6) (fun k hk => by rw [HO6.out.cellAt k (by omega)]; exact ptrs_get _ _ k hk) HR7.out HT7.out HS6.out HI6.out (by omega) (by omega) hsz HTM.out.1 HTM.out.2)
  have HKT := hide hKT
  have hg2 : g2 ≠ gs := by
    rcases HAT.out with e | e
    · intro e'; subst e'; exact hgr (hown_form g2 e)
    · have := HGA.out.lt; have := HX0K.out.size; simp at e; omega
  have hbL6 := HRb.out.1
  clear hO1 hO2 hO6 hKT hK02 hL1t
  go_wp2_with (go_at_call 15; go_must (refine H7.out.mono ?_); rintro _ w7 ⟨v7, rfl, sp', hK7, hS7, hI7, hT7⟩; have HQ := hide (And.intro hK7 (And.intro hS7 (And.intro hI7 hT7))); clear hK7 hS7 hI7 hT7)
  obtain ⟨hK7, hS7, hI7, hT7⟩ := HQ.out
  have hLS : L ≠ gS := HL6.out.ty.ne HS6.out.1 (by decide)
  refine bodyPost_end (v := .tuple #[]) (by simp [results, Yba.results6]) rfl ⟨_, g2, rfl, ⟨cap2, gS, size, ee, sp', few6, many6, (par + 1), ?_, ?_, ?_, ?_, hBS, hS7, hI7, hT7, HEE.out, by omega, hsz, ?_, by omega, by omega⟩, hg2, ?_⟩
  · have := HL6.out.keep hK7 hLS
    simpa using this
  · exact owns_keep HO6.out hK7 (fun g hg e => by
      simp [Value.ownBlock] at hg
      subst hg
      exact (ty_of_owns HO6.out).ne HS6.out.1 (by decide) e)
  · exact HR7.out.keep HT7.out hK7 (fun x hx e => hx.ne HS6.out.1 (by decide) e) (fun x hx e => hx.ne HS6.out.1 (by decide) e)
  · exact HT7.out.keep hK7 (fun x hx e => hx.ne HS6.out.1 (by decide) e) (fun x hx e => hx.ne HS6.out.1 (by decide) e)
  · exact HC6.out.keep hK7 (fun g hg e => hg.ne HS6.out.1 (by decide) e) (fun g hg e => by
      subst e
      obtain ⟨cs, fr, h1⟩ := HS6.out.1
      obtain ⟨es, cl, h2⟩ := hg
      rw [h1] at h2; cases h2)
  · refine (HKA.out.trans' HKT.out (fun x hx e => ?_)).trans' hK7 (fun x hx e => ?_)
    · rcases e with e | e | e
      · subst e; exact ⟨HNA.out.2.2.2.1, hbT.ne HGA.out (by decide)⟩
      · refine ⟨?_, fun e' => hgr (e' ▸ e)⟩
        have h := HOA.out
        rw [e] at h
        exact (h.lt x rfl).1
      · exact ⟨e.1, fun e' => not_Sc HLA.out (e' ▸ HGA.out) (by decide) (by decide) e⟩
    · subst e
      exact ⟨hBS, HSA.out.1.ne HGA.out (by decide)⟩
end Go.Proofs.Ybulkcnwo
