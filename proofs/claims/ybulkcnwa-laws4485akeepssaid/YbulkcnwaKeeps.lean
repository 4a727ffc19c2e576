import Derived.Test.YbulkcnwaClone
namespace Go.Proofs.Ybulkcnwa
open Go.RowKit
theorem others_none {o : Int} {es : List Ent} : ∀ j (h : j < (others o es).length), ((others o es)[j].lv == o) = false := by
  intro j h
  have := List.mem_filter.1 (show (others o es)[j] ∈ others o es from List.getElem_mem h)
  simpa using this.2
set_option maxHeartbeats 1000000 in
set_option maxRecDepth 100000 in
theorem keeps_any (w : World) (a : Option Addr) (cap : Nat) (es : List Ent) (ol : Int) (ho0 : 0 ≤ ol) (ho1 : ol ≤ 255) (hn : es.length ≤ 1024) (hE : ∀ k (h : k < es.length), EntryAt w a k es[k]) :
    Calls Yba.prog 4 #[.slice a es.length cap, .int .u8 ol] w fun e w' => e = .returned (.bool true) ∧ Below w.heap.size w w' := by
  have HE := hide hE
  clear hE
  go_enter Yba.func4, Yba.ntmps4
  go_wp2_with (first | (go_at_call 6; go_must (refine (build_any _ _ _ es hn HE.out).mono ?_); rintro _ w1 ⟨tb, rfl, hT, hb1⟩; have HT := hide hT; obtain ⟨g, cc, -, htl, -, hgl, hc, hrow⟩ := hT; have HR := hide hrow; clear hrow) | (go_at_call 9; go_must (refine (clone_any w1 w.heap.size g cc es hn HR.out).mono ?_); rintro _ w2 ⟨pa, c2, rfl, hb2, HROW⟩; have htl2 := Nat.lt_of_lt_of_le htl hb2.size; have hc2 := (hb2.cell (p := ⟨tb, 0, none⟩) htl).trans hc) | (refine wpList_store_mid rfl 29 (.tmp 7) (.tmp 26) rfl w2.heap.size 0 #[.int .u8 0, .int .u8 0, .int .u8 0, .int .u8 0, .int .u8 0, .int .u8 0, .int .u8 0, .int .u8 0, .int .u8 0, .int .u8 0, .int .u8 0, .int .u8 0, .int .u8 0, .int .u8 0, .int .u8 0, .int .u8 0, .int .u8 0, .int .u8 0, .int .u8 0, .int .u8 0, .int .u8 0, .int .u8 0, .int .u8 0, .int .u8 0, .int .u8 0, .int .u8 0, .int .u8 0, .int .u8 0, .int .u8 0, .int .u8 0, .int .u8 0, .int .u8 0, .int .u16 (ol % 8)] rfl rfl ?_ ?_ ?_ ?_; (exact fresh_there _ _ _ _ rfl); (exact size29); (exact all_oneCell_toArray (zone_oneCell (ol % 8))); generalize hW : World.setCells _ _ _ _ = W3; have HL : Hid (Laid w2 W3 [.int .u8 0, .int .u8 0, .int .u8 0, .int .u8 0, .int .u8 0, .int .u8 0, .int .u8 0, .int .u8 0, .int .u8 0, .int .u8 0, .int .u8 0, .int .u8 0, .int .u8 0, .int .u8 0, .int .u8 0, .int .u8 0, .int .u8 0, .int .u8 0, .int .u8 0, .int .u8 0, .int .u8 0, .int .u8 0, .int .u8 0, .int .u8 0, .int .u8 0, .int .u8 0, .int .u8 0, .int .u8 0, .int .u8 0, .int .u8 0, .int .u8 0, .int .u8 0, .int .u16 (ol % 8)]) := hW ▸ fresh_store w2 _ 29 _ rfl; clear hW) | (refine wpList_load_mid rfl 29 (.tmp 7) rfl w2.heap.size 0 rfl [.int .u8 0, .int .u8 0, .int .u8 0, .int .u8 0, .int .u8 0, .int .u8 0, .int .u8 0, .int .u8 0, .int .u8 0, .int .u8 0, .int .u8 0, .int .u8 0, .int .u8 0, .int .u8 0, .int .u8 0, .int .u8 0, .int .u8 0, .int .u8 0, .int .u8 0, .int .u8 0, .int .u8 0, .int .u8 0, .int .u8 0, .int .u8 0, .int .u8 0, .int .u8 0, .int .u8 0, .int .u8 0, .int .u8 0, .int .u8 0, .int .u8 0, .int .u8 0, .int .u16 (ol % 8)] _ ?_ Yba.underlying29 rfl size29 ?_; (go_must (exact HL.out.2.2))) | (go_at_call 7; go_must (refine (links_got W3 w.heap.size tb (ol % 8) es hn (TableAt.later (TableAt.later HT.out hb2) HL.out.1)).mono ?_); rintro _ w4 ⟨pq, c4, m, rfl, HM, hb4, HGOT⟩; have hb3 := HL.out.1; have hb14 : Below w1.heap.size w1 w4 := (hb2.trans (hb3.mono hb2.size)).trans (hb4.mono (Nat.le_trans hb2.size hb3.size)); have hc4 := (hb14.cell (p := ⟨tb, 0, none⟩) htl).trans hc))
  have HB4 : Hid (Below w.heap.size w w4) := hb1.trans (hb14.mono hb1.size)
  have HOX : Hid (w4.rangeAt w2.heap.size 0 [.int .u8 0, .int .u8 0, .int .u8 0, .int .u8 0, .int .u8 0, .int .u8 0, .int .u8 0, .int .u8 0, .int .u8 0, .int .u8 0, .int .u8 0, .int .u8 0, .int .u8 0, .int .u8 0, .int .u8 0, .int .u8 0, .int .u8 0, .int .u8 0, .int .u8 0, .int .u8 0, .int .u8 0, .int .u8 0, .int .u8 0, .int .u8 0, .int .u8 0, .int .u8 0, .int .u8 0, .int .u8 0, .int .u8 0, .int .u8 0, .int .u8 0, .int .u8 0, .int .u16 (ol % 8)]) := range_below HL.out.2.2 hb4
  have hob : w2.heap.size < w4.heap.size := by have := hb4.size; have := HL.out.2.1; omega
  have htl4 : tb < w4.heap.size := Nat.lt_of_lt_of_le htl hb14.size
  have HTR : Hid (w4.ownsRow w.heap.size 36 36 (.slice (some ⟨g, 0, none⟩) es.length cc) es.length (flat es)) := owns_below HR.out hb14
  have HCL : Hid (Row w4 pa es) := HROW.out.later ((hb3.trans (hb4.mono hb3.size)))
  have hcw : ∀ w' : World, Below w4.heap.size w4 w' → w'.cell? ⟨tb, 0, none⟩ = some (.slice (some ⟨g, 0, none⟩) es.length cc) := fun w' h => (h.cell (p := ⟨tb, 0, none⟩) htl4).trans hc4
  clear hb1 hb2 HT HL hb3 hb4 hb14 htl htl2 hc hc2 hc4 hgl HR HROW
  go_loopw [9, 40] (fun cv i wr => ∃ k c : Nat, k ≤ es.length ∧ i = .int .i64 k ∧ cv = .int .i64 c ∧ Hid (c + (others (ol % 8) (es.take k)).length = k) ∧ c ≤ k ∧ Below w4.heap.size w4 wr) (fun _ i _ => es.length - (intOf i).toNat)
  case atStart => exact ⟨0, 0, Nat.zero_le _, rfl, rfl, rfl, Nat.zero_le _, Below.refl _ _⟩
  case round =>
    obtain ⟨k, c, hk, rfl, rfl, HC, hck, hb⟩ := hrel
    by_cases hlt : k < es.length
    · obtain ⟨-, -, -, -, -, -, -, -, hgn, hgt, -⟩ := HE.out k hlt
      have htk : es.take (k + 1) = es.take k ++ [es[k]] := List.take_succ_eq_append_getElem hlt
      have hr1 := row_range HTR.out rfl k hlt
      obtain ⟨g2, hpa, hg2, hr2⟩ := HCL.out k hlt
      subst hpa
      generalize es[k] = e at hr1 hr2 htk hgn hgt
      obtain ⟨lv, ver, more, ga, gn, gc⟩ := e
      simp only at hgn hgt
      have HR1 : Hid (w4.rangeAt g (k * 36) [.int .u8 0, .int .u8 0, .int .u8 0, .int .u8 0, .int .u8 0, .int .u8 0, .int .u8 0, .int .u8 0, .int .u8 0, .int .u8 0, .int .u8 0, .int .u8 0, .int .u8 0, .int .u8 0, .int .u8 0, .int .u8 0, .int .u8 0, .int .u8 0, .int .u8 0, .int .u8 0, .int .u8 0, .int .u8 0, .int .u8 0, .int .u8 0, .int .u8 0, .int .u8 0, .int .u8 0, .int .u8 0, .int .u8 0, .int .u8 0, .int .u8 0, .int .u8 0, .int .u16 lv, .slice ga gn gc, .int .i64 ver, .int .i64 more]) := hr1
      have HR2 : Hid (w4.rangeAt g2 (k * 36) [.int .u8 0, .int .u8 0, .int .u8 0, .int .u8 0, .int .u8 0, .int .u8 0, .int .u8 0, .int .u8 0, .int .u8 0, .int .u8 0, .int .u8 0, .int .u8 0, .int .u8 0, .int .u8 0, .int .u8 0, .int .u8 0, .int .u8 0, .int .u8 0, .int .u8 0, .int .u8 0, .int .u8 0, .int .u8 0, .int .u8 0, .int .u8 0, .int .u8 0, .int .u8 0, .int .u8 0, .int .u8 0, .int .u8 0, .int .u8 0, .int .u8 0, .int .u8 0, .int .u16 lv, .slice ga gn gc, .int .i64 ver, .int .i64 more]) := hr2
      have HTK := hide htk
      have HGT := hide hgt
      have hB0 : Below w4.heap.size w4 wr.drew := hb.drew
      clear hr1 hr2 htk hgt
      have hlt' : (k : Int) < es.length := by omega
      go_wp2_with fail
      refine wp_region_held_drew (S := fun w' => Below w4.heap.size w4 w') (by kernel_rfl) hB0 (fun _ => ?_)
      refine wpAnyH_take (i := 0) (oi := { dst := some 43, op := Op.move (Operand.tmp 5), type := 23, pos := _, after := #[], guard := none }) (v := .pointer (some ⟨tb, 0, none⟩)) rfl (by kernel_rfl) (by kernel_rfl) (by kernel_rfl) (fun _ _ _ h => h) (Or.inl ⟨by rfl, ?_⟩) hB0 ?_
      · intro w hSw; (try dsimp only at hSw); go_simp
      simp only [Act.put, List.setIfInBounds_toArray, List.set_cons_zero, List.set_cons_succ]
      refine wpAnyH_take (i := 1) (oi := { dst := some 44, op := Op.nilCheck (Operand.tmp 43), type := 0, pos := _, after := #[{ on := 0, ground := Ground.data }], guard := none }) (v := .pointer (some ⟨tb, 0, none⟩)) rfl (by kernel_rfl) (by kernel_rfl) (by kernel_rfl) (fun _ _ _ h => h) (Or.inl ⟨by rfl, ?_⟩) hB0 ?_
      · intro w hSw; (try dsimp only at hSw); go_simp
      simp only [Act.put, List.setIfInBounds_toArray, List.set_cons_zero, List.set_cons_succ]
      refine wpAnyH_take (i := 2) (oi := { dst := some 45, op := Op.fieldAddr 41 (Operand.tmp 44) 0, type := 0, pos := _, after := #[{ on := 1, ground := Ground.data }], guard := none }) (v := .pointer (some ⟨tb, 0, none⟩)) rfl (by kernel_rfl) (by kernel_rfl) (by kernel_rfl) (fun _ _ _ h => h) (Or.inl ⟨by rfl, ?_⟩) hB0 ?_
      · intro w hSw; (try dsimp only at hSw); go_simp
      simp only [Act.put, List.setIfInBounds_toArray, List.set_cons_zero, List.set_cons_succ]
      refine wpAnyH_take (i := 3) (oi := { dst := some 46, op := Op.load 30 (Operand.tmp 45), type := 30, pos := _, after := #[{ on := 2, ground := Ground.data }], guard := none }) (v := .slice (some ⟨g, 0, none⟩) es.length cc) rfl (by kernel_rfl) (by kernel_rfl) (by kernel_rfl) (fun _ _ _ h => h) (Or.inl ⟨by rfl, ?_⟩) hB0 ?_
      · intro w hSw; (try dsimp only at hSw); go_simp
      simp only [Act.put, List.setIfInBounds_toArray, List.set_cons_zero, List.set_cons_succ]
      refine wpAnyH_take (i := 4) (oi := { dst := some 47, op := Op.move (Operand.tmp 10), type := 3, pos := _, after := #[], guard := none }) (v := .int .i64 k) rfl (by kernel_rfl) (by kernel_rfl) (by kernel_rfl) (fun _ _ _ h => h) (Or.inl ⟨by rfl, ?_⟩) hB0 ?_
      · intro w hSw; (try dsimp only at hSw); go_simp
      simp only [Act.put, List.setIfInBounds_toArray, List.set_cons_zero, List.set_cons_succ]
      refine wpAnyH_take (i := 5) (oi := { dst := some 48, op := Op.indexAddr 30 (Operand.tmp 46) (Operand.tmp 47), type := 0, pos := _, after := #[{ on := 3, ground := Ground.data }, { on := 4, ground := Ground.data }], guard := none }) (v := .pointer (some ⟨g, k * 36, none⟩)) rfl (by kernel_rfl) (by kernel_rfl) (by kernel_rfl) (fun _ _ _ h => h) (Or.inl ⟨by rfl, ?_⟩) hB0 ?_
      · intro w hSw; (try dsimp only at hSw); go_simp
      simp only [Act.put, List.setIfInBounds_toArray, List.set_cons_zero, List.set_cons_succ]
      refine wpAnyH_take (i := 6) (oi := { dst := some 49, op := Op.load 36 (Operand.tmp 48), type := 36, pos := _, after := #[{ on := 5, ground := Ground.data }], guard := none }) (v := .agg (List.toArray [.int .u8 0, .int .u8 0, .int .u8 0, .int .u8 0, .int .u8 0, .int .u8 0, .int .u8 0, .int .u8 0, .int .u8 0, .int .u8 0, .int .u8 0, .int .u8 0, .int .u8 0, .int .u8 0, .int .u8 0, .int .u8 0, .int .u8 0, .int .u8 0, .int .u8 0, .int .u8 0, .int .u8 0, .int .u8 0, .int .u8 0, .int .u8 0, .int .u8 0, .int .u8 0, .int .u8 0, .int .u8 0, .int .u8 0, .int .u8 0, .int .u8 0, .int .u8 0, .int .u16 lv, .slice ga gn gc, .int .i64 ver, .int .i64 more])) rfl (by kernel_rfl) (by kernel_rfl) (by kernel_rfl) (fun _ _ _ h => h) (yieldsIf_load_mid (by rfl) 36 _ rfl g (k * 36) rfl [.int .u8 0, .int .u8 0, .int .u8 0, .int .u8 0, .int .u8 0, .int .u8 0, .int .u8 0, .int .u8 0, .int .u8 0, .int .u8 0, .int .u8 0, .int .u8 0, .int .u8 0, .int .u8 0, .int .u8 0, .int .u8 0, .int .u8 0, .int .u8 0, .int .u8 0, .int .u8 0, .int .u8 0, .int .u8 0, .int .u8 0, .int .u8 0, .int .u8 0, .int .u8 0, .int .u8 0, .int .u8 0, .int .u8 0, .int .u8 0, .int .u8 0, .int .u8 0, .int .u16 lv, .slice ga gn gc, .int .i64 ver, .int .i64 more] _ ?_ Yba.underlying36 rfl size36) hB0 ?_
      · intro w hSw; exact range_below HR1.out hSw
      simp only [Act.put, List.setIfInBounds_toArray, List.set_cons_zero, List.set_cons_succ]
      refine wpAnyH_take (i := 7) (oi := { dst := some 50, op := Op.move (Operand.tmp 6), type := 30, pos := _, after := #[], guard := none }) (v := .slice (some ⟨g2, 0, none⟩) es.length c2) rfl (by kernel_rfl) (by kernel_rfl) (by kernel_rfl) (fun _ _ _ h => h) (Or.inl ⟨by rfl, ?_⟩) hB0 ?_
      · intro w hSw; (try dsimp only at hSw); go_simp
      simp only [Act.put, List.setIfInBounds_toArray, List.set_cons_zero, List.set_cons_succ]
      refine wpAnyH_take (i := 8) (oi := { dst := some 51, op := Op.move (Operand.tmp 10), type := 3, pos := _, after := #[], guard := none }) (v := .int .i64 k) rfl (by kernel_rfl) (by kernel_rfl) (by kernel_rfl) (fun _ _ _ h => h) (Or.inl ⟨by rfl, ?_⟩) hB0 ?_
      · intro w hSw; (try dsimp only at hSw); go_simp
      simp only [Act.put, List.setIfInBounds_toArray, List.set_cons_zero, List.set_cons_succ]
      refine wpAnyH_take (i := 9) (oi := { dst := some 52, op := Op.indexAddr 30 (Operand.tmp 50) (Operand.tmp 51), type := 0, pos := _, after := #[{ on := 7, ground := Ground.data }, { on := 8, ground := Ground.data }], guard := none }) (v := .pointer (some ⟨g2, k * 36, none⟩)) rfl (by kernel_rfl) (by kernel_rfl) (by kernel_rfl) (fun _ _ _ h => h) (Or.inl ⟨by rfl, ?_⟩) hB0 ?_
      · intro w hSw; (try dsimp only at hSw); go_simp
      simp only [Act.put, List.setIfInBounds_toArray, List.set_cons_zero, List.set_cons_succ]
      refine wpAnyH_take (i := 10) (oi := { dst := some 53, op := Op.load 36 (Operand.tmp 52), type := 36, pos := _, after := #[{ on := 9, ground := Ground.data }], guard := none }) (v := .agg (List.toArray [.int .u8 0, .int .u8 0, .int .u8 0, .int .u8 0, .int .u8 0, .int .u8 0, .int .u8 0, .int .u8 0, .int .u8 0, .int .u8 0, .int .u8 0, .int .u8 0, .int .u8 0, .int .u8 0, .int .u8 0, .int .u8 0, .int .u8 0, .int .u8 0, .int .u8 0, .int .u8 0, .int .u8 0, .int .u8 0, .int .u8 0, .int .u8 0, .int .u8 0, .int .u8 0, .int .u8 0, .int .u8 0, .int .u8 0, .int .u8 0, .int .u8 0, .int .u8 0, .int .u16 lv, .slice ga gn gc, .int .i64 ver, .int .i64 more])) rfl (by kernel_rfl) (by kernel_rfl) (by kernel_rfl) (fun _ _ _ h => h) (yieldsIf_load_mid (by rfl) 36 _ rfl g2 (k * 36) rfl [.int .u8 0, .int .u8 0, .int .u8 0, .int .u8 0, .int .u8 0, .int .u8 0, .int .u8 0, .int .u8 0, .int .u8 0, .int .u8 0, .int .u8 0, .int .u8 0, .int .u8 0, .int .u8 0, .int .u8 0, .int .u8 0, .int .u8 0, .int .u8 0, .int .u8 0, .int .u8 0, .int .u8 0, .int .u8 0, .int .u8 0, .int .u8 0, .int .u8 0, .int .u8 0, .int .u8 0, .int .u8 0, .int .u8 0, .int .u8 0, .int .u8 0, .int .u8 0, .int .u16 lv, .slice ga gn gc, .int .i64 ver, .int .i64 more] _ ?_ Yba.underlying36 rfl size36) hB0 ?_
      · intro w hSw; exact range_below HR2.out hSw
      simp only [Act.put, List.setIfInBounds_toArray, List.set_cons_zero, List.set_cons_succ]
      refine wpAnyH_ready (rs := [11]) (by kernel_rfl) (by simp) ?_
      refine AllReadyH.cons (o := { dst := some 54, op := Op.call { callee := Callee.value (Operand.func 10), args := #[Operand.tmp 49, Operand.tmp 53], argTypes := #[36, 36] }, type := 4, pos := _, after := #[{ on := 6, ground := Ground.data }, { on := 10, ground := Ground.data }], guard := none }) rfl (fun K hK => ?_) AllReadyH.nil
      go_simp
      go_at_call 10
      refine (same_any _ lv ver more ga gn gc hgn (HGT.out.later (HB4.out.trans (hB0.mono HB4.out.size)))).mono ?_
      rintro e w5 ⟨rfl, hb5⟩
      have hB1 : Below w4.heap.size w4 w5 := hB0.trans (hb5.mono hB0.size)
      clear hb5
      go_wp2_with fail
      refine hK.out _ _ hB1 (fun _ => ?_)
      clear hK K
      try simp only [Act.put, List.setIfInBounds_toArray, List.set_cons_zero, List.set_cons_succ]
      refine wpAnyH_take (i := 12) (oi := { dst := some 55, op := Op.unOp UnOp.not 4 (Operand.tmp 54), type := 4, pos := _, after := #[{ on := 11, ground := Ground.data }], guard := none }) (v := .bool false) rfl (by kernel_rfl) (by kernel_rfl) (by kernel_rfl) (fun _ _ _ h => h) (Or.inl ⟨by rfl, ?_⟩) hB1 ?_
      · intro w hSw; (try dsimp only at hSw); go_simp
      simp only [Act.put, List.setIfInBounds_toArray, List.set_cons_zero, List.set_cons_succ]
      refine wpAnyH_done (by kernel_rfl) ?_ _
      go_wp2_with fail
      have hB2 : Below w4.heap.size w4 w5.drew := hB1.drew
      refine wp_region_held_drew (S := fun w' => Below w4.heap.size w4 w') (by kernel_rfl) hB2 (fun _ => ?_)
      refine wpAnyH_take (i := 0) (oi := { dst := some 56, op := Op.move (Operand.tmp 6), type := 30, pos := _, after := #[], guard := none }) (v := .slice (some ⟨g2, 0, none⟩) es.length c2) rfl (by kernel_rfl) (by kernel_rfl) (by kernel_rfl) (fun _ _ _ h => h) (Or.inl ⟨by rfl, ?_⟩) hB2 ?_
      · intro w hSw; (try dsimp only at hSw); go_simp
      simp only [Act.put, List.setIfInBounds_toArray, List.set_cons_zero, List.set_cons_succ]
      refine wpAnyH_take (i := 1) (oi := { dst := some 57, op := Op.move (Operand.tmp 10), type := 3, pos := _, after := #[], guard := none }) (v := .int .i64 k) rfl (by kernel_rfl) (by kernel_rfl) (by kernel_rfl) (fun _ _ _ h => h) (Or.inl ⟨by rfl, ?_⟩) hB2 ?_
      · intro w hSw; (try dsimp only at hSw); go_simp
      simp only [Act.put, List.setIfInBounds_toArray, List.set_cons_zero, List.set_cons_succ]
      refine wpAnyH_take (i := 2) (oi := { dst := some 58, op := Op.indexAddr 30 (Operand.tmp 56) (Operand.tmp 57), type := 0, pos := _, after := #[{ on := 0, ground := Ground.data }, { on := 1, ground := Ground.data }], guard := none }) (v := .pointer (some ⟨g2, k * 36, none⟩)) rfl (by kernel_rfl) (by kernel_rfl) (by kernel_rfl) (fun _ _ _ h => h) (Or.inl ⟨by rfl, ?_⟩) hB2 ?_
      · intro w hSw; (try dsimp only at hSw); go_simp
      simp only [Act.put, List.setIfInBounds_toArray, List.set_cons_zero, List.set_cons_succ]
      refine wpAnyH_take (i := 3) (oi := { dst := some 59, op := Op.fieldAddr 36 (Operand.tmp 58) 0, type := 0, pos := _, after := #[{ on := 2, ground := Ground.data }], guard := none }) (v := .pointer (some ⟨g2, k * 36, none⟩)) rfl (by kernel_rfl) (by kernel_rfl) (by kernel_rfl) (fun _ _ _ h => h) (Or.inl ⟨by rfl, ?_⟩) hB2 ?_
      · intro w hSw; (try dsimp only at hSw); go_simp
      simp only [Act.put, List.setIfInBounds_toArray, List.set_cons_zero, List.set_cons_succ]
      refine wpAnyH_take (i := 4) (oi := { dst := some 60, op := Op.load 29 (Operand.tmp 59), type := 29, pos := _, after := #[{ on := 3, ground := Ground.data }], guard := none }) (v := .agg (List.toArray [.int .u8 0, .int .u8 0, .int .u8 0, .int .u8 0, .int .u8 0, .int .u8 0, .int .u8 0, .int .u8 0, .int .u8 0, .int .u8 0, .int .u8 0, .int .u8 0, .int .u8 0, .int .u8 0, .int .u8 0, .int .u8 0, .int .u8 0, .int .u8 0, .int .u8 0, .int .u8 0, .int .u8 0, .int .u8 0, .int .u8 0, .int .u8 0, .int .u8 0, .int .u8 0, .int .u8 0, .int .u8 0, .int .u8 0, .int .u8 0, .int .u8 0, .int .u8 0, .int .u16 lv])) rfl (by kernel_rfl) (by kernel_rfl) (by kernel_rfl) (fun _ _ _ h => h) (yieldsIf_load_mid (by rfl) 29 _ rfl g2 (k * 36) rfl [.int .u8 0, .int .u8 0, .int .u8 0, .int .u8 0, .int .u8 0, .int .u8 0, .int .u8 0, .int .u8 0, .int .u8 0, .int .u8 0, .int .u8 0, .int .u8 0, .int .u8 0, .int .u8 0, .int .u8 0, .int .u8 0, .int .u8 0, .int .u8 0, .int .u8 0, .int .u8 0, .int .u8 0, .int .u8 0, .int .u8 0, .int .u8 0, .int .u8 0, .int .u8 0, .int .u8 0, .int .u8 0, .int .u8 0, .int .u8 0, .int .u8 0, .int .u8 0, .int .u16 lv] _ ?_ Yba.underlying29 rfl size29) hB2 ?_
      · intro w hSw; exact range_take (ys := [.slice ga gn gc, .int .i64 ver, .int .i64 more]) (range_below HR2.out hSw)
      simp only [Act.put, List.setIfInBounds_toArray, List.set_cons_zero, List.set_cons_succ]
      refine wpAnyH_take (i := 5) (oi := { dst := some 61, op := Op.load 29 (Operand.tmp 7), type := 29, pos := _, after := #[], guard := none }) (v := .agg (List.toArray [.int .u8 0, .int .u8 0, .int .u8 0, .int .u8 0, .int .u8 0, .int .u8 0, .int .u8 0, .int .u8 0, .int .u8 0, .int .u8 0, .int .u8 0, .int .u8 0, .int .u8 0, .int .u8 0, .int .u8 0, .int .u8 0, .int .u8 0, .int .u8 0, .int .u8 0, .int .u8 0, .int .u8 0, .int .u8 0, .int .u8 0, .int .u8 0, .int .u8 0, .int .u8 0, .int .u8 0, .int .u8 0, .int .u8 0, .int .u8 0, .int .u8 0, .int .u8 0, .int .u16 (ol % 8)])) rfl (by kernel_rfl) (by kernel_rfl) (by kernel_rfl) (fun _ _ _ h => h) (yieldsIf_load_mid (by rfl) 29 _ rfl w2.heap.size 0 rfl [.int .u8 0, .int .u8 0, .int .u8 0, .int .u8 0, .int .u8 0, .int .u8 0, .int .u8 0, .int .u8 0, .int .u8 0, .int .u8 0, .int .u8 0, .int .u8 0, .int .u8 0, .int .u8 0, .int .u8 0, .int .u8 0, .int .u8 0, .int .u8 0, .int .u8 0, .int .u8 0, .int .u8 0, .int .u8 0, .int .u8 0, .int .u8 0, .int .u8 0, .int .u8 0, .int .u8 0, .int .u8 0, .int .u8 0, .int .u8 0, .int .u8 0, .int .u8 0, .int .u16 (ol % 8)] _ ?_ Yba.underlying29 rfl size29) hB2 ?_
      · intro w hSw; exact range_below HOX.out hSw
      simp only [Act.put, List.setIfInBounds_toArray, List.set_cons_zero, List.set_cons_succ]
      have hze := eql29
      refine wpAnyH_take (i := 6) (oi := { dst := some 62, op := Op.binOp BinOp.eql 29 (Operand.tmp 60) (Operand.tmp 61) 29, type := 4, pos := _, after := #[{ on := 4, ground := Ground.data }, { on := 5, ground := Ground.data }], guard := none }) (v := .bool (lv == ol % 8)) rfl (by kernel_rfl) (by kernel_rfl) (by kernel_rfl) (fun _ _ _ h => h) (Or.inl ⟨by rfl, ?_⟩) hB2 ?_
      · intro w hSw; (try dsimp only at hSw); go_simp
      simp only [Act.put, List.setIfInBounds_toArray, List.set_cons_zero, List.set_cons_succ]
      clear hze
      refine wpAnyH_done (by kernel_rfl) ?_ _
      cases hlo : lv == ol % 8
      · go_wp2_with fail
        go_roundw
        case rel =>
          refine ⟨k + 1, c, by omega, by go_num, rfl, ?_, by omega, hB2⟩
          show _ = _
          have := HC.out
          rw [HTK.out]; simp [others, hlo] at this ⊢; omega
        case measure => simp [intOf]; omega
      · go_wp2_with fail
        go_roundw
        case rel =>
          refine ⟨k + 1, c + 1, by omega, by go_num, by go_num, ?_, by omega, hB2⟩
          show _ = _
          have := HC.out
          rw [HTK.out]; simp [others, hlo] at this ⊢; omega
        case measure => simp [intOf]; omega
    · obtain rfl : k = es.length := by omega
      have hcm : c + m = es.length := by have := HC.out; rwa [List.take_of_length_le (Nat.le_refl _), ← HM.out] at this
      rename World => W0
      go_wp2_with fail
      go_loopw [68] (fun i wr => ∃ k2 : Nat, k2 ≤ m ∧ i = .int .i64 k2 ∧ Below w4.heap.size w4 wr) (fun i _ => m - (intOf i).toNat)
      case atStart => exact ⟨0, Nat.zero_le _, rfl, hb⟩
      case round =>
        clear hb
        obtain ⟨k2, hk2, rfl, hb⟩ := hrel
        by_cases hlt2 : k2 < m
        · obtain ⟨g3, hpq, hg3, hr3⟩ := HGOT.out.2 k2 (by rw [← HM.out]; exact hlt2)
          have hlo := others_none (o := ol % 8) (es := es) k2 (by rw [← HM.out]; exact hlt2)
          subst hpq
          generalize (others (ol % 8) es)[k2]'(by rw [← HM.out]; exact hlt2) = e at hr3 hlo
          obtain ⟨lv, ver, more, ga, gn, gc⟩ := e
          simp only at hlo
          have HR3 : Hid (wr.rangeAt g3 (k2 * 36) [.int .u8 0, .int .u8 0, .int .u8 0, .int .u8 0, .int .u8 0, .int .u8 0, .int .u8 0, .int .u8 0, .int .u8 0, .int .u8 0, .int .u8 0, .int .u8 0, .int .u8 0, .int .u8 0, .int .u8 0, .int .u8 0, .int .u8 0, .int .u8 0, .int .u8 0, .int .u8 0, .int .u8 0, .int .u8 0, .int .u8 0, .int .u8 0, .int .u8 0, .int .u8 0, .int .u8 0, .int .u8 0, .int .u8 0, .int .u8 0, .int .u8 0, .int .u8 0, .int .u16 lv, .slice ga gn gc, .int .i64 ver, .int .i64 more]) := range_below hr3 hb
          have HBX : Hid (wr.rangeAt w2.heap.size 0 [.int .u8 0, .int .u8 0, .int .u8 0, .int .u8 0, .int .u8 0, .int .u8 0, .int .u8 0, .int .u8 0, .int .u8 0, .int .u8 0, .int .u8 0, .int .u8 0, .int .u8 0, .int .u8 0, .int .u8 0, .int .u8 0, .int .u8 0, .int .u8 0, .int .u8 0, .int .u8 0, .int .u8 0, .int .u8 0, .int .u8 0, .int .u8 0, .int .u8 0, .int .u8 0, .int .u8 0, .int .u8 0, .int .u8 0, .int .u8 0, .int .u8 0, .int .u8 0, .int .u16 (ol % 8)]) := range_below HOX.out hb
          clear hr3
          go_wp2_with (first | (refine wpList_load_mid rfl 36 (.tmp 70) rfl g3 (k2 * 36) rfl [.int .u8 0, .int .u8 0, .int .u8 0, .int .u8 0, .int .u8 0, .int .u8 0, .int .u8 0, .int .u8 0, .int .u8 0, .int .u8 0, .int .u8 0, .int .u8 0, .int .u8 0, .int .u8 0, .int .u8 0, .int .u8 0, .int .u8 0, .int .u8 0, .int .u8 0, .int .u8 0, .int .u8 0, .int .u8 0, .int .u8 0, .int .u8 0, .int .u8 0, .int .u8 0, .int .u8 0, .int .u8 0, .int .u8 0, .int .u8 0, .int .u8 0, .int .u8 0, .int .u16 lv, .slice ga gn gc, .int .i64 ver, .int .i64 more] _ ?_ Yba.underlying36 rfl size36 ?_; (go_must (exact HR3.out))) | (refine wpList_store_mid rfl 36 (.tmp 12) (.tmp 71) rfl wr.heap.size 0 #[.int .u8 0, .int .u8 0, .int .u8 0, .int .u8 0, .int .u8 0, .int .u8 0, .int .u8 0, .int .u8 0, .int .u8 0, .int .u8 0, .int .u8 0, .int .u8 0, .int .u8 0, .int .u8 0, .int .u8 0, .int .u8 0, .int .u8 0, .int .u8 0, .int .u8 0, .int .u8 0, .int .u8 0, .int .u8 0, .int .u8 0, .int .u8 0, .int .u8 0, .int .u8 0, .int .u8 0, .int .u8 0, .int .u8 0, .int .u8 0, .int .u8 0, .int .u8 0, .int .u16 lv, .slice ga gn gc, .int .i64 ver, .int .i64 more] rfl rfl ?_ ?_ ?_ ?_; (exact fresh_there _ _ _ _ rfl); (exact size36); (exact all_oneCell_toArray (arr_oneCell (Ent.mk lv ver more ga gn gc))); generalize hW : World.setCells _ _ _ _ = W5; have HL : Hid (Laid wr W5 [.int .u8 0, .int .u8 0, .int .u8 0, .int .u8 0, .int .u8 0, .int .u8 0, .int .u8 0, .int .u8 0, .int .u8 0, .int .u8 0, .int .u8 0, .int .u8 0, .int .u8 0, .int .u8 0, .int .u8 0, .int .u8 0, .int .u8 0, .int .u8 0, .int .u8 0, .int .u8 0, .int .u8 0, .int .u8 0, .int .u8 0, .int .u8 0, .int .u8 0, .int .u8 0, .int .u8 0, .int .u8 0, .int .u8 0, .int .u8 0, .int .u8 0, .int .u8 0, .int .u16 lv, .slice ga gn gc, .int .i64 ver, .int .i64 more]) := hW ▸ fresh_store wr _ 36 _ rfl; clear hW) | (refine wpList_load_mid rfl 29 (.tmp 72) rfl wr.heap.size 0 rfl [.int .u8 0, .int .u8 0, .int .u8 0, .int .u8 0, .int .u8 0, .int .u8 0, .int .u8 0, .int .u8 0, .int .u8 0, .int .u8 0, .int .u8 0, .int .u8 0, .int .u8 0, .int .u8 0, .int .u8 0, .int .u8 0, .int .u8 0, .int .u8 0, .int .u8 0, .int .u8 0, .int .u8 0, .int .u8 0, .int .u8 0, .int .u8 0, .int .u8 0, .int .u8 0, .int .u8 0, .int .u8 0, .int .u8 0, .int .u8 0, .int .u8 0, .int .u8 0, .int .u16 lv] _ ?_ Yba.underlying29 rfl size29 ?_; (go_must (exact range_take (ys := [.slice ga gn gc, .int .i64 ver, .int .i64 more]) HL.out.2.2))) | (refine wpList_load_mid rfl 29 (.tmp 7) rfl w2.heap.size 0 rfl [.int .u8 0, .int .u8 0, .int .u8 0, .int .u8 0, .int .u8 0, .int .u8 0, .int .u8 0, .int .u8 0, .int .u8 0, .int .u8 0, .int .u8 0, .int .u8 0, .int .u8 0, .int .u8 0, .int .u8 0, .int .u8 0, .int .u8 0, .int .u8 0, .int .u8 0, .int .u8 0, .int .u8 0, .int .u8 0, .int .u8 0, .int .u8 0, .int .u8 0, .int .u8 0, .int .u8 0, .int .u8 0, .int .u8 0, .int .u8 0, .int .u8 0, .int .u8 0, .int .u16 (ol % 8)] _ ?_ Yba.underlying29 rfl size29 ?_; (go_must (exact range_below HBX.out HL.out.1)); have hze := eql29))
          clear hze
          go_roundw
          case rel =>
            have hL := HL.out.1
            exact ⟨k2 + 1, by omega, by go_num, hb.trans (hL.mono hb.size)⟩
          case measure => simp [intOf]; omega
        · have hcm2 : (m : Int) + c = es.length := by omega
          have hm2 : (m : Int) ≤ 1024 := by omega
          have hc2 : (c : Int) ≤ 1024 := by omega
          go_wp2_with fail
          go_ret
          exact ⟨by simp, HB4.out.trans (hb.mono HB4.out.size)⟩
end Go.Proofs.Ybulkcnwa
