import Derived.Test.YbulkcnwaLinks
namespace Go.Proofs.Ybulkcnwa
open Go.RowKit
theorem size27 : (Yba.prog.info? 27).map (·.size) = some 32 := by kernel_rfl
theorem zone_oneCell (n : Int) : ∀ u ∈ ([.int .u8 0, .int .u8 0, .int .u8 0, .int .u8 0, .int .u8 0, .int .u8 0, .int .u8 0, .int .u8 0, .int .u8 0, .int .u8 0, .int .u8 0, .int .u8 0, .int .u8 0, .int .u8 0, .int .u8 0, .int .u8 0, .int .u8 0, .int .u8 0, .int .u8 0, .int .u8 0, .int .u8 0, .int .u8 0, .int .u8 0, .int .u8 0, .int .u8 0, .int .u8 0, .int .u8 0, .int .u8 0, .int .u8 0, .int .u8 0, .int .u8 0, .int .u8 0, .int .u16 n] : List Value), u.oneCell' = true := by
  intro u hu
  simp only [List.mem_cons, List.not_mem_nil, or_false] at hu
  rcases hu with rfl | rfl | rfl | rfl | rfl | rfl | rfl | rfl | rfl | rfl | rfl | rfl | rfl | rfl | rfl | rfl | rfl | rfl | rfl | rfl | rfl | rfl | rfl | rfl | rfl | rfl | rfl | rfl | rfl | rfl | rfl | rfl | rfl <;> rfl
theorem neq27 (w : World) : (binOp .neq 27 (.agg #[.int .u8 0, .int .u8 0, .int .u8 0, .int .u8 0, .int .u8 0, .int .u8 0, .int .u8 0, .int .u8 0, .int .u8 0, .int .u8 0, .int .u8 0, .int .u8 0, .int .u8 0, .int .u8 0, .int .u8 0, .int .u8 0, .int .u8 0, .int .u8 0, .int .u8 0, .int .u8 0, .int .u8 0, .int .u8 0, .int .u8 0, .int .u8 0, .int .u8 0, .int .u8 0, .int .u8 0, .int .u8 0, .int .u8 0, .int .u8 0, .int .u8 0, .int .u8 0]) (.agg #[.int .u8 0, .int .u8 0, .int .u8 0, .int .u8 0, .int .u8 0, .int .u8 0, .int .u8 0, .int .u8 0, .int .u8 0, .int .u8 0, .int .u8 0, .int .u8 0, .int .u8 0, .int .u8 0, .int .u8 0, .int .u8 0, .int .u8 0, .int .u8 0, .int .u8 0, .int .u8 0, .int .u8 0, .int .u8 0, .int .u8 0, .int .u8 0, .int .u8 0, .int .u8 0, .int .u8 0, .int .u8 0, .int .u8 0, .int .u8 0, .int .u8 0, .int .u8 0])).run Yba.prog w = .ok (.bool false) w := by kernel_rfl
theorem eql_nil30 (w : World) (a : Option Addr) (n c : Nat) : (binOp .eql 30 (.slice a n c) (.slice none 0 0)).run Yba.prog w = .ok (.bool a.isNone) w := by
  simp only [binOp, Sem.run_bind, run_equal_slice_nil w 30 36 a n c Yba.underlying30, Result.andThen_ok, Sem.run_pure]
/-- A load of many cells under a guard that is met. -/
theorem wpList_load_want {P : Program} {ops : Array Oper} {rest : List Oper} {op : Oper} {a : Act} {w : World} {Q : Exit → Act → World → Prop} (ty : TypeId) (x : Operand) (ho : op.op = .load ty x) (hw : Region.wanted op (yielded ops a.tmps) = true)
    (b o : Nat) (hx : a.eval x = .pointer (some ⟨b, o, none⟩)) (cs : List Value) (d : TypeDesc) (hc : w.rangeAt b o cs)
    (hu : P.underlying ty = some d) (hd : d.isRow = true) (hi : (P.info? ty).map (·.size) = some cs.length)
    (h : wpList P ops Q rest (a.put op.dst (.agg cs.toArray)) w) : wpList P ops Q (op :: rest) a w :=
  wpList_step fun K hK => by rw [if_pos hw]; exact wp_load_mid ty x ho b o hx cs d hc hu hd hi (hK _ _ h)
theorem laid_alloc (w : World) (cs : List Value) (t : TypeId) : Laid w (w.alloc (.cells cs.toArray t)) cs :=
  ⟨(Below.refl _ _).alloc (Nat.le_refl _) _, by simp, fun j v hv => by
    rw [Nat.zero_add, World.cell?_alloc_new, ← Array.getElem?_toList]; exact hv⟩
theorem Laid.cell {w W : World} {cs : List Value} (h : Laid w W cs) (j : Nat) {v : Value} (hv : cs[j]? = some v) : W.cell? ⟨w.heap.size, j, none⟩ = some v := by
  have := h.2.2 j v hv
  rwa [Nat.zero_add] at this
theorem others_at {o : Int} {es : List Ent} {k : Nat} {e : Ent} (h : es.take (k + 1) = es.take k ++ [e]) (hne : (e.lv == o) = false) :
    ∃ h : (others o (es.take k)).length < (others o es).length, (others o es)[(others o (es.take k)).length] = e := by
  have h2 : others o es = others o (es.take k) ++ e :: others o (es.drop (k + 1)) := by
    conv => lhs; rw [← List.take_append_drop (k + 1) es, h]
    simp [others, hne]
  have hl : (others o (es.take k)).length < (others o es).length := by rw [h2]; simp
  refine ⟨hl, ?_⟩
  have : (others o es)[(others o (es.take k)).length]? = some e := by rw [h2]; simp
  rw [List.getElem?_eq_getElem hl] at this
  exact Option.some.inj this
theorem TableAt.later {base tb : Nat} {w w' : World} {es : List Ent} (h : TableAt base w tb es) (hb : Below w.heap.size w w') : TableAt base w' tb es := by
  obtain ⟨g, cc, h1, h2, h3, h4, h5, h6⟩ := h
  exact ⟨g, cc, h1, Nat.lt_of_lt_of_le h2 hb.size, h3, Nat.lt_of_lt_of_le h4 hb.size, (hb.cell (p := ⟨tb, 0, none⟩) h2).trans h5, owns_below h6 hb⟩
/-- What links answers, as a row that can be read. -/
def Got (w : World) (pa : Option Addr) (l : List Ent) : Prop :=
  (l = [] ↔ pa = none) ∧ ∀ j (h : j < l.length), ∃ g, pa = some ⟨g, 0, none⟩ ∧ g < w.heap.size ∧ w.rangeAt g (j * 36) l[j].arr.toList
theorem Got.later {w w' : World} {pa : Option Addr} {l : List Ent} (h : Got w pa l) (hb : Below w.heap.size w w') : Got w' pa l :=
  ⟨h.1, fun j hj => by
    obtain ⟨g, h1, h2, h3⟩ := h.2 j hj
    exact ⟨g, h1, Nat.lt_of_lt_of_le h2 hb.size, range_below h3 hb⟩⟩
theorem links_got (w : World) (base tb : Nat) (o : Int) (es : List Ent) (hn : es.length ≤ 1024) (hT : TableAt base w tb es) :
    Calls Yba.prog 7 #[.pointer (some ⟨tb, 0, none⟩), .agg #[.int .u8 0, .int .u8 0, .int .u8 0, .int .u8 0, .int .u8 0, .int .u8 0, .int .u8 0, .int .u8 0, .int .u8 0, .int .u8 0, .int .u8 0, .int .u8 0, .int .u8 0, .int .u8 0, .int .u8 0, .int .u8 0, .int .u8 0, .int .u8 0, .int .u8 0, .int .u8 0, .int .u8 0, .int .u8 0, .int .u8 0, .int .u8 0, .int .u8 0, .int .u8 0, .int .u8 0, .int .u8 0, .int .u8 0, .int .u8 0, .int .u8 0, .int .u8 0, .int .u16 o]] w fun e w' => ∃ pa cc m, e = .returned (.slice pa m cc) ∧ Hid (m = (others o es).length) ∧ Below w.heap.size w w' ∧ Hid (Got w' pa (others o es)) := by
  refine (links_any w base tb o es hn hT).mono fun e w' => ?_
  rintro ⟨v, rfl, hb, ⟨h0, rfl⟩ | ⟨h0, g, cc, rfl, hown⟩⟩
  · exact ⟨none, 0, 0, rfl, by show _ = _; rw [h0]; rfl, hb, ⟨by simp [h0], fun j hj => by simp [h0] at hj⟩⟩
  · exact ⟨_, _, _, rfl, rfl, hb, ⟨by simp [h0], fun j hj => ⟨g, rfl, (hown.lt g rfl).2, row_range hown rfl j hj⟩⟩⟩
set_option maxHeartbeats 1000000 in
set_option maxRecDepth 100000 in
theorem exact_any (w : World) (a : Option Addr) (cap : Nat) (es : List Ent) (ol : Int) (ho0 : 0 ≤ ol) (ho1 : ol ≤ 255) (hn : es.length ≤ 1024) (hE : ∀ k (h : k < es.length), EntryAt w a k es[k]) :
    Calls Yba.prog 3 #[.slice a es.length cap, .int .u8 ol] w fun e w' => e = .returned (.bool true) ∧ Below w.heap.size w w' := by
  have HE := hide hE
  clear hE
  go_enter Yba.func3, Yba.ntmps3
  go_wp2_with (first | (go_at_call 6; go_must (refine (build_any _ _ _ es hn HE.out).mono ?_); rintro _ w1 ⟨tb, rfl, hT, hb1⟩; have HT := hide hT; clear hT) | (refine wpList_store_mid rfl 29 (.tmp 6) (.tmp 20) rfl w1.heap.size 0 #[.int .u8 0, .int .u8 0, .int .u8 0, .int .u8 0, .int .u8 0, .int .u8 0, .int .u8 0, .int .u8 0, .int .u8 0, .int .u8 0, .int .u8 0, .int .u8 0, .int .u8 0, .int .u8 0, .int .u8 0, .int .u8 0, .int .u8 0, .int .u8 0, .int .u8 0, .int .u8 0, .int .u8 0, .int .u8 0, .int .u8 0, .int .u8 0, .int .u8 0, .int .u8 0, .int .u8 0, .int .u8 0, .int .u8 0, .int .u8 0, .int .u8 0, .int .u8 0, .int .u16 (ol % 8)] rfl rfl ?_ ?_ ?_ ?_; (exact fresh_there _ _ _ _ rfl); (exact size29); (exact all_oneCell_toArray (zone_oneCell (ol % 8))); generalize hW : World.setCells _ _ _ _ = W1; have HL : Hid (Laid w1 W1 [.int .u8 0, .int .u8 0, .int .u8 0, .int .u8 0, .int .u8 0, .int .u8 0, .int .u8 0, .int .u8 0, .int .u8 0, .int .u8 0, .int .u8 0, .int .u8 0, .int .u8 0, .int .u8 0, .int .u8 0, .int .u8 0, .int .u8 0, .int .u8 0, .int .u8 0, .int .u8 0, .int .u8 0, .int .u8 0, .int .u8 0, .int .u8 0, .int .u8 0, .int .u8 0, .int .u8 0, .int .u8 0, .int .u8 0, .int .u8 0, .int .u8 0, .int .u8 0, .int .u16 (ol % 8)]) := hW ▸ fresh_store w1 _ 29 _ rfl; clear hW) | (refine wpList_load_mid rfl 29 (.tmp 6) rfl w1.heap.size 0 rfl [.int .u8 0, .int .u8 0, .int .u8 0, .int .u8 0, .int .u8 0, .int .u8 0, .int .u8 0, .int .u8 0, .int .u8 0, .int .u8 0, .int .u8 0, .int .u8 0, .int .u8 0, .int .u8 0, .int .u8 0, .int .u8 0, .int .u8 0, .int .u8 0, .int .u8 0, .int .u8 0, .int .u8 0, .int .u8 0, .int .u8 0, .int .u8 0, .int .u8 0, .int .u8 0, .int .u8 0, .int .u8 0, .int .u8 0, .int .u8 0, .int .u8 0, .int .u8 0, .int .u16 (ol % 8)] _ ?_ Yba.underlying29 rfl size29 ?_; (go_must (exact HL.out.2.2))) | (go_at_call 7; go_must (refine (links_got W1 w.heap.size tb (ol % 8) es hn (TableAt.later HT.out HL.out.1)).mono ?_); rintro _ w2 ⟨pa, cc, m, rfl, HM, hb2, HGOT⟩))
  have hbw2 : Below w.heap.size w w2 := (hb1.trans (HL.out.1.mono hb1.size)).trans (hb2.mono (Nat.le_trans hb1.size HL.out.1.size))
  have HB2 := hide hbw2
  have HOX : Hid (w2.rangeAt w1.heap.size 0 [.int .u8 0, .int .u8 0, .int .u8 0, .int .u8 0, .int .u8 0, .int .u8 0, .int .u8 0, .int .u8 0, .int .u8 0, .int .u8 0, .int .u8 0, .int .u8 0, .int .u8 0, .int .u8 0, .int .u8 0, .int .u8 0, .int .u8 0, .int .u8 0, .int .u8 0, .int .u8 0, .int .u8 0, .int .u8 0, .int .u8 0, .int .u8 0, .int .u8 0, .int .u8 0, .int .u8 0, .int .u8 0, .int .u8 0, .int .u8 0, .int .u8 0, .int .u8 0, .int .u16 (ol % 8)]) := range_below HL.out.2.2 hb2
  have hob : Hid (w1.heap.size < w2.heap.size) := by show _ < _; have := hb2.size; have := HL.out.2.1; omega
  clear hb1 hb2 HT HL hbw2
  go_loopw [8, 26] (fun jv i wr => ∃ k jn : Nat, k ≤ es.length ∧ i = .int .i64 k ∧ jv = .int .i64 jn ∧ Hid (jn = (others (ol % 8) (es.take k)).length) ∧ jn ≤ k ∧ Below w2.heap.size w2 wr) (fun _ i _ => es.length - (intOf i).toNat)
  case atStart => exact ⟨0, 0, Nat.zero_le _, rfl, rfl, rfl, Nat.zero_le _, Below.refl _ _⟩
  case round =>
    obtain ⟨k, jn, hk, rfl, rfl, HJ, hjk, hb⟩ := hrel
    by_cases hlt : k < es.length
    · obtain ⟨sb, so, x, rfl, hsb, x0, x1, hlv, hgn, hgt, q0, q1, q2, q3⟩ := HE.out k hlt
      have htk : es.take (k + 1) = es.take k ++ [es[k]] := List.take_succ_eq_append_getElem hlt
      generalize es[k] = e at hlv q1 q2 q3 htk hgn hgt
      obtain ⟨lv, ver, more, ga, gn, gc⟩ := e
      simp only at hlv q1 q2 q3 hgn hgt
      subst hlv
      have hbw : Below w.heap.size w wr := HB2.out.trans (hb.mono HB2.out.size)
      have p0 := (hbw.cell (p := ⟨sb, so + k * 4, none⟩) hsb).trans q0
      have p1 := (hbw.cell (p := ⟨sb, so + k * 4 + 1, none⟩) hsb).trans q1
      have p2 := (hbw.cell (p := ⟨sb, so + k * 4 + 2, none⟩) hsb).trans q2
      have p3 := (hbw.cell (p := ⟨sb, so + k * 4 + 3, none⟩) hsb).trans q3
      have hsb' : sb < wr.heap.size := by have := hbw.size; omega
      have hobw : w1.heap.size < wr.heap.size := by have := hob.out; have := hb.size; omega
      have HGT := hide (hgt.later hbw)
      have hoc : wr.cell? ⟨w1.heap.size, 32, none⟩ = some (.int .u16 (ol % 8)) := by
        have := (range_below HOX.out hb) 32 _ rfl
        rwa [Nat.zero_add] at this
      have HTK := hide htk
      have HBW := hide hbw
      clear q0 q1 q2 q3 htk hgt hbw
      cases hlo : x % 8 == ol % 8
      · obtain ⟨hj, hje⟩ := others_at HTK.out hlo
        have HJE := hide hje
        obtain ⟨g, hpa, hg1, hg2⟩ := (HGOT.out.later hb).2 _ hj
        rw [hje, ← HJ.out] at hg2
        rw [← HJ.out, ← HM.out] at hj
        have hg3 : wr.rangeAt g (jn * 36) [.int .u8 0, .int .u8 0, .int .u8 0, .int .u8 0, .int .u8 0, .int .u8 0, .int .u8 0, .int .u8 0, .int .u8 0, .int .u8 0, .int .u8 0, .int .u8 0, .int .u8 0, .int .u8 0, .int .u8 0, .int .u8 0, .int .u8 0, .int .u8 0, .int .u8 0, .int .u8 0, .int .u8 0, .int .u8 0, .int .u8 0, .int .u8 0, .int .u8 0, .int .u8 0, .int .u8 0, .int .u8 0, .int .u8 0, .int .u8 0, .int .u8 0, .int .u8 0, .int .u16 (x % 8), .slice ga gn gc, .int .i64 ver, .int .i64 more] := hg2
        have HG3 := hide hg3
        have HPA := hide hpa
        subst hpa
        clear hg2 hg3 hje
        have hlo' : ¬ (x % 8 = ol % 8) := by simpa using hlo
        clear hlo
        go_wp2_with (first | (refine wpList_load_mid rfl 36 (.tmp 43) rfl g (jn * 36) rfl [.int .u8 0, .int .u8 0, .int .u8 0, .int .u8 0, .int .u8 0, .int .u8 0, .int .u8 0, .int .u8 0, .int .u8 0, .int .u8 0, .int .u8 0, .int .u8 0, .int .u8 0, .int .u8 0, .int .u8 0, .int .u8 0, .int .u8 0, .int .u8 0, .int .u8 0, .int .u8 0, .int .u8 0, .int .u8 0, .int .u8 0, .int .u8 0, .int .u8 0, .int .u8 0, .int .u8 0, .int .u8 0, .int .u8 0, .int .u8 0, .int .u8 0, .int .u8 0, .int .u16 (x % 8), .slice ga gn gc, .int .i64 ver, .int .i64 more] _ ?_ Yba.underlying36 rfl size36 ?_; (go_must (exact World.rangeAt_alloc HG3.out _)); generalize hW0 : World.alloc _ _ = W0; have HL0 : Hid (Laid wr W0 [.int .u8 x, .int .i64 ver, .int .i64 more, .slice ga gn gc]) := hW0 ▸ laid_alloc wr _ 34; clear hW0) | (refine wpList_store_mid rfl 36 (.tmp 11) (.tmp 44) rfl W0.heap.size 0 #[.int .u8 0, .int .u8 0, .int .u8 0, .int .u8 0, .int .u8 0, .int .u8 0, .int .u8 0, .int .u8 0, .int .u8 0, .int .u8 0, .int .u8 0, .int .u8 0, .int .u8 0, .int .u8 0, .int .u8 0, .int .u8 0, .int .u8 0, .int .u8 0, .int .u8 0, .int .u8 0, .int .u8 0, .int .u8 0, .int .u8 0, .int .u8 0, .int .u8 0, .int .u8 0, .int .u8 0, .int .u8 0, .int .u8 0, .int .u8 0, .int .u8 0, .int .u8 0, .int .u16 (x % 8), .slice ga gn gc, .int .i64 ver, .int .i64 more] rfl rfl ?_ ?_ ?_ ?_; (exact fresh_there _ _ _ _ rfl); (exact size36); (exact all_oneCell_toArray (arr_oneCell (Ent.mk (x % 8) ver more ga gn gc))); generalize hW : World.setCells _ _ _ _ = W3; have HL3 : Hid (Laid W0 W3 [.int .u8 0, .int .u8 0, .int .u8 0, .int .u8 0, .int .u8 0, .int .u8 0, .int .u8 0, .int .u8 0, .int .u8 0, .int .u8 0, .int .u8 0, .int .u8 0, .int .u8 0, .int .u8 0, .int .u8 0, .int .u8 0, .int .u8 0, .int .u8 0, .int .u8 0, .int .u8 0, .int .u8 0, .int .u8 0, .int .u8 0, .int .u8 0, .int .u8 0, .int .u8 0, .int .u8 0, .int .u8 0, .int .u8 0, .int .u8 0, .int .u8 0, .int .u8 0, .int .u16 (x % 8), .slice ga gn gc, .int .i64 ver, .int .i64 more]) := hW ▸ fresh_store W0 _ 36 _ rfl; clear hW; have hz3 := HL0.out.2.1; have c0 := (HL3.out.1.cell (p := ⟨wr.heap.size, 0, none⟩) (by show wr.heap.size < _; omega)).trans (HL0.out.cell 0 rfl); have c1 := (HL3.out.1.cell (p := ⟨wr.heap.size, 1, none⟩) (by show wr.heap.size < _; omega)).trans (HL0.out.cell 1 rfl); have c2 := (HL3.out.1.cell (p := ⟨wr.heap.size, 2, none⟩) (by show wr.heap.size < _; omega)).trans (HL0.out.cell 2 rfl); have c3 := (HL3.out.1.cell (p := ⟨wr.heap.size, 3, none⟩) (by show wr.heap.size < _; omega)).trans (HL0.out.cell 3 rfl); have d32 := HL3.out.cell 32 rfl; have d33 := HL3.out.cell 33 rfl; have d34 := HL3.out.cell 34 rfl; have d35 := HL3.out.cell 35 rfl; clear hz3; have h27 := neq27) | (refine wpList_load_want 27 (.tmp 55) rfl rfl W0.heap.size 0 rfl [.int .u8 0, .int .u8 0, .int .u8 0, .int .u8 0, .int .u8 0, .int .u8 0, .int .u8 0, .int .u8 0, .int .u8 0, .int .u8 0, .int .u8 0, .int .u8 0, .int .u8 0, .int .u8 0, .int .u8 0, .int .u8 0, .int .u8 0, .int .u8 0, .int .u8 0, .int .u8 0, .int .u8 0, .int .u8 0, .int .u8 0, .int .u8 0, .int .u8 0, .int .u8 0, .int .u8 0, .int .u8 0, .int .u8 0, .int .u8 0, .int .u8 0, .int .u8 0] _ ?_ Yba.underlying27 rfl size27 ?_; (go_must (exact range_take (ys := [.int .u16 (x % 8), .slice ga gn gc, .int .i64 ver, .int .i64 more]) HL3.out.2.2))) | (refine wpList_load_want 27 (.tmp 57) rfl rfl w1.heap.size 0 rfl [.int .u8 0, .int .u8 0, .int .u8 0, .int .u8 0, .int .u8 0, .int .u8 0, .int .u8 0, .int .u8 0, .int .u8 0, .int .u8 0, .int .u8 0, .int .u8 0, .int .u8 0, .int .u8 0, .int .u8 0, .int .u8 0, .int .u8 0, .int .u8 0, .int .u8 0, .int .u8 0, .int .u8 0, .int .u8 0, .int .u8 0, .int .u8 0, .int .u8 0, .int .u8 0, .int .u8 0, .int .u8 0, .int .u8 0, .int .u8 0, .int .u8 0, .int .u8 0] _ ?_ Yba.underlying27 rfl size27 ?_; (go_must (exact range_take (ys := [.int .u16 (ol % 8)]) (range_below (range_below (range_below HOX.out hb) HL0.out.1) HL3.out.1)))) | (go_at_call 8; go_must (refine (equal_same W3 ga gn gc hgn ((HGT.out.later HL0.out.1).later HL3.out.1)).mono ?_); rintro _ w4 ⟨rfl, hb4⟩))
        go_roundw
        case rel =>
          have hL0 := HL0.out.1
          have hL3 := HL3.out.1
          have hb3 := hL0.trans (hL3.mono hL0.size)
          have hb5 := hb3.trans (hb4.mono hb3.size)
          refine ⟨k + 1, jn + 1, by omega, by go_num, by go_num, ?_, by omega, hb.trans (hb5.mono hb.size)⟩
          show _ = _
          rw [HTK.out, HJ.out]; simp [others, hlo']
        case measure => simp [intOf]; omega
      · have hlo' : x % 8 = ol % 8 := by simpa using hlo
        go_wp2_with fail
        go_roundw
        case rel =>
          refine ⟨k + 1, jn, by omega, by go_num, rfl, ?_, by omega, hb.alloc hb.size _⟩
          show _ = _
          rw [HTK.out, HJ.out]; simp [others, hlo']
        case measure => simp [intOf]; omega
    · obtain rfl : k = es.length := by omega
      have hjm : jn = m := by rw [HJ.out, HM.out, List.take_of_length_le (Nat.le_refl _)]
      subst hjm
      have hbw : Below w.heap.size w wr := HB2.out.trans (hb.mono HB2.out.size)
      by_cases h0 : jn = 0
      · have hpa : pa = none := HGOT.out.1.1 (List.eq_nil_of_length_eq_zero (by rw [← HM.out]; exact h0))
        subst hpa h0
        clear HM HJ HGOT
        have hq : ∀ w : World, (binOp .eql 30 (.slice none 0 cc) (.slice none 0 0)).run Yba.prog w = .ok (.bool true) w := fun w => eql_nil30 w none 0 cc
        go_wp2_with fail
        go_ret
        exact ⟨rfl, hbw⟩
      · obtain ⟨g, hpa, -, -⟩ := HGOT.out.2 0 (by rw [← HM.out]; omega)
        subst hpa
        clear HM HJ HGOT
        go_wp2_with fail
        go_ret
        exact ⟨rfl, hbw⟩
end Go.Proofs.Ybulkcnwa
