import Derived.Test.YbulkcnwaBuild
import Derived.Deep.DeepMust
import Derived.Deep.Onto
namespace Go.Proofs.Ybulkcnwa
open Go.RowKit
theorem neq29 (a b : Int) (w : World) : (binOp .neq 29 (.agg #[.int .u8 0, .int .u8 0, .int .u8 0, .int .u8 0, .int .u8 0, .int .u8 0, .int .u8 0, .int .u8 0, .int .u8 0, .int .u8 0, .int .u8 0, .int .u8 0, .int .u8 0, .int .u8 0, .int .u8 0, .int .u8 0, .int .u8 0, .int .u8 0, .int .u8 0, .int .u8 0, .int .u8 0, .int .u8 0, .int .u8 0, .int .u8 0, .int .u8 0, .int .u8 0, .int .u8 0, .int .u8 0, .int .u8 0, .int .u8 0, .int .u8 0, .int .u8 0, .int .u16 a]) (.agg #[.int .u8 0, .int .u8 0, .int .u8 0, .int .u8 0, .int .u8 0, .int .u8 0, .int .u8 0, .int .u8 0, .int .u8 0, .int .u8 0, .int .u8 0, .int .u8 0, .int .u8 0, .int .u8 0, .int .u8 0, .int .u8 0, .int .u8 0, .int .u8 0, .int .u8 0, .int .u8 0, .int .u8 0, .int .u8 0, .int .u8 0, .int .u8 0, .int .u8 0, .int .u8 0, .int .u8 0, .int .u8 0, .int .u8 0, .int .u8 0, .int .u8 0, .int .u8 0, .int .u16 b])).run Yba.prog w = .ok (.bool (!(a == b))) w := zone_neq a b w
theorem eql29 (a b : Int) (w : World) : (binOp .eql 29 (.agg #[.int .u8 0, .int .u8 0, .int .u8 0, .int .u8 0, .int .u8 0, .int .u8 0, .int .u8 0, .int .u8 0, .int .u8 0, .int .u8 0, .int .u8 0, .int .u8 0, .int .u8 0, .int .u8 0, .int .u8 0, .int .u8 0, .int .u8 0, .int .u8 0, .int .u8 0, .int .u8 0, .int .u8 0, .int .u8 0, .int .u8 0, .int .u8 0, .int .u8 0, .int .u8 0, .int .u8 0, .int .u8 0, .int .u8 0, .int .u8 0, .int .u8 0, .int .u8 0, .int .u16 a]) (.agg #[.int .u8 0, .int .u8 0, .int .u8 0, .int .u8 0, .int .u8 0, .int .u8 0, .int .u8 0, .int .u8 0, .int .u8 0, .int .u8 0, .int .u8 0, .int .u8 0, .int .u8 0, .int .u8 0, .int .u8 0, .int .u8 0, .int .u8 0, .int .u8 0, .int .u8 0, .int .u8 0, .int .u8 0, .int .u8 0, .int .u8 0, .int .u8 0, .int .u8 0, .int .u8 0, .int .u8 0, .int .u8 0, .int .u8 0, .int .u8 0, .int .u8 0, .int .u8 0, .int .u16 b])).run Yba.prog w = .ok (.bool (a == b)) w := zone_eql a b w
theorem size36 : (Yba.prog.info? 36).map (·.size) = some 36 := by kernel_rfl
theorem size29 : (Yba.prog.info? 29).map (·.size) = some 33 := by kernel_rfl
/-- The entries that are not of level o. -/
def others (o : Int) (es : List Ent) : List Ent := es.filter fun e => !(e.lv == o)
theorem row_range {w : World} {base g n cc : Nat} {es : List Ent} (h : w.ownsRow base 36 36 (.slice (some ⟨g, 0, none⟩) n cc) n (flat es)) (hn : n = es.length) (k : Nat) (hk : k < es.length) : w.rangeAt g (k * 36) es[k].arr.toList := by
  intro j v hv
  have hj : j < 36 := by
    have := (List.getElem?_eq_some_iff.1 hv).1
    rw [Ent.size] at this; exact this
  rw [h.cellAt (k * 36 + j) (by rw [hn]; omega), flat_get es k j hk hj]
  exact hv
theorem below_setCells {B : Nat} {a : World} (b : Nat) (hB : B ≤ b) : ∀ (vs : List Value) (o : Nat) (w : World), Below B a w → Below B a (w.setCells b o vs)
  | [], _, _, h => h
  | v :: r, o, _, h => below_setCells b hB r (o + 1) _ (h.setCell (p := ⟨b, o, none⟩) hB v)
theorem size_setCells (b : Nat) : ∀ (vs : List Value) (o : Nat) (w : World), (w.setCells b o vs).heap.size = w.heap.size
  | [], _, _ => rfl
  | v :: r, o, w => by
    rw [World.setCells, size_setCells b r]
    simp [World.setCell]
theorem fresh_there (w : World) (z : Array Value) (t : TypeId) (n : Nat) (hz : z.size = n) : (w.alloc (.cells z t)).there w.heap.size 0 n := by
  intro j hj
  have hb : Blk (w.alloc (.cells z t)) w.heap.size t z := Blk.new' rfl
  refine ⟨?_, ?_⟩
  · rw [Nat.zero_add, hb.cell, Array.getElem?_eq_getElem (by omega)]; rfl
  · have h' : (w.alloc (.cells z t)).heap[w.heap.size]? = some (.cells z t (0, 0)) := hb
    simp only [World.frozen?, h']; simp
/-- A world that is w with a new block laid as cs. -/
def Laid (w W : World) (cs : List Value) : Prop := Below w.heap.size w W ∧ W.heap.size = w.heap.size + 1 ∧ W.rangeAt w.heap.size 0 cs
theorem fresh_store (w : World) (z : Array Value) (t : TypeId) (cs : List Value) (hz : z.size = cs.length) : Laid w ((w.alloc (.cells z t)).setCells w.heap.size 0 cs) cs :=
  ⟨below_setCells _ (Nat.le_refl _) _ _ _ ((Below.refl _ _).alloc (Nat.le_refl _) _), by rw [size_setCells]; simp, World.rangeAt_setCells_same _ _ _ _ (fresh_there w z t _ hz)⟩
theorem range_take {w : World} {b o : Nat} {xs ys : List Value} (h : w.rangeAt b o (xs ++ ys)) : w.rangeAt b o xs := fun j v hv => h j v (by rw [List.getElem?_append_left (List.getElem?_eq_some_iff.1 hv).1]; exact hv)
theorem range_below {w w' : World} {b o : Nat} {xs : List Value} (h : w.rangeAt b o xs) (hb : Below w.heap.size w w') : w'.rangeAt b o xs := fun j v hv => by
  rw [hb.cell (p := ⟨b, o + j, none⟩) (World.block_lt_of_cell? w _ (h j v hv))]; exact h j v hv
theorem range_keep {w w' : World} {b o B : Nat} {xs : List Value} (h : w.rangeAt b o xs) (hB : b < B) (hb : Below B w w') : w'.rangeAt b o xs := fun j v hv => by
  rw [hb.cell (p := ⟨b, o + j, none⟩) hB]; exact h j v hv
set_option maxHeartbeats 1000000 in
set_option maxRecDepth 100000 in
theorem links_any (w : World) (base tb : Nat) (o : Int) (es : List Ent) (hn : es.length ≤ 1024) (hT : TableAt base w tb es) :
    Calls Yba.prog 7 #[.pointer (some ⟨tb, 0, none⟩), .agg #[.int .u8 0, .int .u8 0, .int .u8 0, .int .u8 0, .int .u8 0, .int .u8 0, .int .u8 0, .int .u8 0, .int .u8 0, .int .u8 0, .int .u8 0, .int .u8 0, .int .u8 0, .int .u8 0, .int .u8 0, .int .u8 0, .int .u8 0, .int .u8 0, .int .u8 0, .int .u8 0, .int .u8 0, .int .u8 0, .int .u8 0, .int .u8 0, .int .u8 0, .int .u8 0, .int .u8 0, .int .u8 0, .int .u8 0, .int .u8 0, .int .u8 0, .int .u8 0, .int .u16 o]] w fun e w' => ∃ v, e = .returned v ∧ Below w.heap.size w w' ∧
      ((others o es = [] ∧ v = .slice none 0 0) ∨ (others o es ≠ [] ∧ ∃ g cc, v = .slice (some ⟨g, 0, none⟩) (others o es).length cc ∧ w'.ownsRow w.heap.size 36 36 v (others o es).length (flat (others o es)))) := by
  obtain ⟨i0, hi, hz0, hz1, hz2⟩ := info_parts info36
  obtain ⟨g, cc, ht1, ht2, hg1, hg2, hc, hrow⟩ := hT
  have hzn := neq29
  have HR := hide hrow
  clear hrow
  go_enter Yba.func7, Yba.ntmps7
  go_wp2_with (at_make; refine wpList_make_own _ rfl _ _ 30 rfl (w.heap.size + 1) 36 i0 _ 36 Yba.underlying30 hi hz0 hz1 _ _ _ es.length rfl rfl (by omega) (by rw [hz2]; omega) (by unfold maxLen; omega) (by simp) ?_; intro w1 hown1 hgr1; have hb1 : Below (w.heap.size + 1) (w.alloc (.cells #[.int .u8 0, .int .u8 0, .int .u8 0, .int .u8 0, .int .u8 0, .int .u8 0, .int .u8 0, .int .u8 0, .int .u8 0, .int .u8 0, .int .u8 0, .int .u8 0, .int .u8 0, .int .u8 0, .int .u8 0, .int .u8 0, .int .u8 0, .int .u8 0, .int .u8 0, .int .u8 0, .int .u8 0, .int .u8 0, .int .u8 0, .int .u8 0, .int .u8 0, .int .u8 0, .int .u8 0, .int .u8 0, .int .u8 0, .int .u8 0, .int .u8 0, .int .u8 0, .int .u16 o] 29)) w1 := (Below.refl _ _).grown hgr1 (by simp) (fun k e => by cases e); have hc1 := (hb1.cell (p := ⟨tb, 0, none⟩) (by show tb < _; omega)).trans (show _ = some (Value.slice (some ⟨g, 0, none⟩) es.length cc) by simp [go_sem, ht2, hc]))
  have hbw : Below w.heap.size w w1 := ((Below.refl _ _).alloc (Nat.le_refl _) _).trans (hb1.mono (by simp))
  have hsz : w.heap.size < w1.heap.size := by have := hb1.size; simp at this; omega
  have hbx : w1.rangeAt w.heap.size 0 [.int .u8 0, .int .u8 0, .int .u8 0, .int .u8 0, .int .u8 0, .int .u8 0, .int .u8 0, .int .u8 0, .int .u8 0, .int .u8 0, .int .u8 0, .int .u8 0, .int .u8 0, .int .u8 0, .int .u8 0, .int .u8 0, .int .u8 0, .int .u8 0, .int .u8 0, .int .u8 0, .int .u8 0, .int .u8 0, .int .u8 0, .int .u8 0, .int .u8 0, .int .u8 0, .int .u8 0, .int .u8 0, .int .u8 0, .int .u8 0, .int .u8 0, .int .u8 0, .int .u16 o] := by
    intro j v hv
    rw [hb1.cell (p := ⟨w.heap.size, 0 + j, none⟩) (by show w.heap.size < _; omega), Nat.zero_add, World.cell?_alloc_new, ← Array.getElem?_toList]
    exact hv
  simp only [World.size_alloc] at hown1
  go_loopw [5, 19] (fun v i wr => ∃ (k g' cc' : Nat) (ov : List Ent), k ≤ es.length ∧ i = .int .i64 k ∧ Hid (ov = others o (es.take k)) ∧ ov.length ≤ k ∧ v = .slice (some ⟨g', 0, none⟩) ov.length cc' ∧ wr.ownsRow (w.heap.size + 1) 36 36 (.slice (some ⟨g', 0, none⟩) ov.length cc') ov.length (flat ov) ∧ Below w.heap.size w wr ∧ w.heap.size < wr.heap.size ∧ wr.rangeAt w.heap.size 0 [.int .u8 0, .int .u8 0, .int .u8 0, .int .u8 0, .int .u8 0, .int .u8 0, .int .u8 0, .int .u8 0, .int .u8 0, .int .u8 0, .int .u8 0, .int .u8 0, .int .u8 0, .int .u8 0, .int .u8 0, .int .u8 0, .int .u8 0, .int .u8 0, .int .u8 0, .int .u8 0, .int .u8 0, .int .u8 0, .int .u8 0, .int .u8 0, .int .u8 0, .int .u8 0, .int .u8 0, .int .u8 0, .int .u8 0, .int .u8 0, .int .u8 0, .int .u8 0, .int .u16 o]) (fun _ i _ => es.length - (intOf i).toNat)
  case atStart => exact ⟨0, _, _, [], Nat.zero_le _, rfl, rfl, Nat.zero_le _, rfl, hown1, hbw, hsz, hbx⟩
  case round =>
    clear hown1 hgr1 hb1 hc1 hbw hsz hbx
    obtain ⟨k, g', cc', ov, hk, rfl, HOV, hovk, rfl, hown, hb, hsz, hbx⟩ := hrel
    by_cases hlt : k < es.length
    · have hrg := row_range (owns_below HR.out hb) rfl k hlt
      have htk : es.take (k + 1) = es.take k ++ [es[k]] := List.take_succ_eq_append_getElem hlt
      generalize es[k] = e at hrg htk
      obtain ⟨lv, ver, more, ga, gn, gc⟩ := e
      have hrg' : wr.rangeAt g (k * 36) [.int .u8 0, .int .u8 0, .int .u8 0, .int .u8 0, .int .u8 0, .int .u8 0, .int .u8 0, .int .u8 0, .int .u8 0, .int .u8 0, .int .u8 0, .int .u8 0, .int .u8 0, .int .u8 0, .int .u8 0, .int .u8 0, .int .u8 0, .int .u8 0, .int .u8 0, .int .u8 0, .int .u8 0, .int .u8 0, .int .u8 0, .int .u8 0, .int .u8 0, .int .u8 0, .int .u8 0, .int .u8 0, .int .u8 0, .int .u8 0, .int .u8 0, .int .u8 0, .int .u16 lv, .slice ga gn gc, .int .i64 ver, .int .i64 more] := hrg
      have HRG := hide hrg'
      have HBX := hide hbx
      have HTK := hide htk
      clear hrg hrg' hbx htk
      cases hlo : lv == o
      · have HOT : Hid (ov ++ [Ent.mk lv ver more ga gn gc] = others o (es.take (k + 1))) := by
          show _ = _
          rw [HTK.out, HOV.out]; simp [others, hlo]
        have HG := hide (hown.lt g' rfl)
        have hbd1 : ov.length + 1 ≤ maxLen := by unfold maxLen; omega
        have hbd2 : (ov.length + 1) * 80 ≤ 140737488355328 := by omega
        have HOWN := hide hown
        have HZN := hide hzn
        clear hown hzn
        go_wp2_with (first | (refine wpList_load_mid rfl 36 (.tmp 21) rfl g (k * 36) rfl [.int .u8 0, .int .u8 0, .int .u8 0, .int .u8 0, .int .u8 0, .int .u8 0, .int .u8 0, .int .u8 0, .int .u8 0, .int .u8 0, .int .u8 0, .int .u8 0, .int .u8 0, .int .u8 0, .int .u8 0, .int .u8 0, .int .u8 0, .int .u8 0, .int .u8 0, .int .u8 0, .int .u8 0, .int .u8 0, .int .u8 0, .int .u8 0, .int .u8 0, .int .u8 0, .int .u8 0, .int .u8 0, .int .u8 0, .int .u8 0, .int .u8 0, .int .u8 0, .int .u16 lv, .slice ga gn gc, .int .i64 ver, .int .i64 more] _ HRG.out Yba.underlying36 rfl size36 ?_) | (refine wpList_store_mid rfl 36 (.tmp 7) (.tmp 22) rfl wr.heap.size 0 #[.int .u8 0, .int .u8 0, .int .u8 0, .int .u8 0, .int .u8 0, .int .u8 0, .int .u8 0, .int .u8 0, .int .u8 0, .int .u8 0, .int .u8 0, .int .u8 0, .int .u8 0, .int .u8 0, .int .u8 0, .int .u8 0, .int .u8 0, .int .u8 0, .int .u8 0, .int .u8 0, .int .u8 0, .int .u8 0, .int .u8 0, .int .u8 0, .int .u8 0, .int .u8 0, .int .u8 0, .int .u8 0, .int .u8 0, .int .u8 0, .int .u8 0, .int .u8 0, .int .u16 lv, .slice ga gn gc, .int .i64 ver, .int .i64 more] rfl rfl ?_ ?_ ?_ ?_; (exact fresh_there _ _ _ _ rfl); (exact size36); (exact all_oneCell_toArray (arr_oneCell (Ent.mk lv ver more ga gn gc))); generalize hW : World.setCells _ _ _ _ = W1; have HL : Hid (Laid wr W1 [.int .u8 0, .int .u8 0, .int .u8 0, .int .u8 0, .int .u8 0, .int .u8 0, .int .u8 0, .int .u8 0, .int .u8 0, .int .u8 0, .int .u8 0, .int .u8 0, .int .u8 0, .int .u8 0, .int .u8 0, .int .u8 0, .int .u8 0, .int .u8 0, .int .u8 0, .int .u8 0, .int .u8 0, .int .u8 0, .int .u8 0, .int .u8 0, .int .u8 0, .int .u8 0, .int .u8 0, .int .u8 0, .int .u8 0, .int .u8 0, .int .u8 0, .int .u8 0, .int .u16 lv, .slice ga gn gc, .int .i64 ver, .int .i64 more]) := hW ▸ fresh_store wr _ 36 _ rfl; clear hW) | (refine wpList_load_mid rfl 29 (.tmp 23) rfl wr.heap.size 0 rfl [.int .u8 0, .int .u8 0, .int .u8 0, .int .u8 0, .int .u8 0, .int .u8 0, .int .u8 0, .int .u8 0, .int .u8 0, .int .u8 0, .int .u8 0, .int .u8 0, .int .u8 0, .int .u8 0, .int .u8 0, .int .u8 0, .int .u8 0, .int .u8 0, .int .u8 0, .int .u8 0, .int .u8 0, .int .u8 0, .int .u8 0, .int .u8 0, .int .u8 0, .int .u8 0, .int .u8 0, .int .u8 0, .int .u8 0, .int .u8 0, .int .u8 0, .int .u8 0, .int .u16 lv] _ ?_ Yba.underlying29 rfl size29 ?_; (go_must (exact range_take (ys := [.slice ga gn gc, .int .i64 ver, .int .i64 more]) HL.out.2.2))) | (refine wpList_load_mid rfl 29 (.tmp 3) rfl w.heap.size 0 rfl [.int .u8 0, .int .u8 0, .int .u8 0, .int .u8 0, .int .u8 0, .int .u8 0, .int .u8 0, .int .u8 0, .int .u8 0, .int .u8 0, .int .u8 0, .int .u8 0, .int .u8 0, .int .u8 0, .int .u8 0, .int .u8 0, .int .u8 0, .int .u8 0, .int .u8 0, .int .u8 0, .int .u8 0, .int .u8 0, .int .u8 0, .int .u8 0, .int .u8 0, .int .u8 0, .int .u8 0, .int .u8 0, .int .u8 0, .int .u8 0, .int .u8 0, .int .u8 0, .int .u16 o] _ ?_ Yba.underlying29 rfl size29 ?_; (go_must (exact range_below HBX.out HL.out.1)); have hzn := HZN.out) | (refine wpList_load_mid rfl 36 (.tmp 7) rfl wr.heap.size 0 rfl [.int .u8 0, .int .u8 0, .int .u8 0, .int .u8 0, .int .u8 0, .int .u8 0, .int .u8 0, .int .u8 0, .int .u8 0, .int .u8 0, .int .u8 0, .int .u8 0, .int .u8 0, .int .u8 0, .int .u8 0, .int .u8 0, .int .u8 0, .int .u8 0, .int .u8 0, .int .u8 0, .int .u8 0, .int .u8 0, .int .u8 0, .int .u8 0, .int .u8 0, .int .u8 0, .int .u8 0, .int .u8 0, .int .u8 0, .int .u8 0, .int .u8 0, .int .u8 0, .int .u16 lv, .slice ga gn gc, .int .i64 ver, .int .i64 more] _ ?_ Yba.underlying36 rfl size36 ?_; (go_must (exact HL.out.2.2)); clear hzn) | (at_builtin; go_must (refine wpList_append_lies _ rfl (.tmp 27) (.tmp 29) 30 rfl (w.heap.size + 1) 36 i0 _ 36 80 Yba.underlying30 hi hz0 hz1 hz2 rfl (by decide) (.slice (some ⟨g', 0, none⟩) ov.length cc') ov.length (flat ov) rfl (World.ownsRow.alloc (owns_below HOWN.out HL.out.1) _) ⟨W1.heap.size, 0, none⟩ 1 1 (Ent.mk lv ver more ga gn gc).arr.toList rfl rfl (Blk.news (Blk.new' rfl)) (arr_oneCell _) (by decide) hbd1 hbd2 (by have := HL.out.2.1; simp; omega) _ rfl ?_); intro g2 cc2 w2 hown2 hgr2 hg2 hl2; have HO2 := hide hown2; have HG2 := hide hgr2; clear hown2 hgr2 hg2 hl2))
        go_roundw
        case rel =>
          have hg := HG.out
          have hL := HL.out
          have hB2 : Below (w.heap.size + 1) wr w2 := ((hL.1.mono (by omega)).alloc (by rw [hL.2.1]; omega) _).grown HG2.out (by simp; rw [hL.2.1]; omega) (fun j ej => by simp [Value.ownBlock] at ej; omega)
          refine ⟨k + 1, g2, cc2, ov ++ [Ent.mk lv ver more ga gn gc], by omega, by go_num, HOT, by simp; omega, by simp, ?_, hb.trans (hB2.mono (by omega)), by have := hB2.size; omega, ?_⟩
          · rw [flat_append, flat_one, List.length_append]; exact HO2.out
          · exact range_keep HBX.out (by omega) hB2
        case measure => simp [intOf]; omega
      · have HOT : Hid (ov = others o (es.take (k + 1))) := by
          show _ = _
          rw [HTK.out, HOV.out]; simp [others, hlo]
        have HOWN := hide hown
        have HZN := hide hzn
        clear hown hzn
        go_wp2_with (first | (refine wpList_load_mid rfl 36 (.tmp 21) rfl g (k * 36) rfl [.int .u8 0, .int .u8 0, .int .u8 0, .int .u8 0, .int .u8 0, .int .u8 0, .int .u8 0, .int .u8 0, .int .u8 0, .int .u8 0, .int .u8 0, .int .u8 0, .int .u8 0, .int .u8 0, .int .u8 0, .int .u8 0, .int .u8 0, .int .u8 0, .int .u8 0, .int .u8 0, .int .u8 0, .int .u8 0, .int .u8 0, .int .u8 0, .int .u8 0, .int .u8 0, .int .u8 0, .int .u8 0, .int .u8 0, .int .u8 0, .int .u8 0, .int .u8 0, .int .u16 lv, .slice ga gn gc, .int .i64 ver, .int .i64 more] _ HRG.out Yba.underlying36 rfl size36 ?_) | (refine wpList_store_mid rfl 36 (.tmp 7) (.tmp 22) rfl wr.heap.size 0 #[.int .u8 0, .int .u8 0, .int .u8 0, .int .u8 0, .int .u8 0, .int .u8 0, .int .u8 0, .int .u8 0, .int .u8 0, .int .u8 0, .int .u8 0, .int .u8 0, .int .u8 0, .int .u8 0, .int .u8 0, .int .u8 0, .int .u8 0, .int .u8 0, .int .u8 0, .int .u8 0, .int .u8 0, .int .u8 0, .int .u8 0, .int .u8 0, .int .u8 0, .int .u8 0, .int .u8 0, .int .u8 0, .int .u8 0, .int .u8 0, .int .u8 0, .int .u8 0, .int .u16 lv, .slice ga gn gc, .int .i64 ver, .int .i64 more] rfl rfl ?_ ?_ ?_ ?_; (exact fresh_there _ _ _ _ rfl); (exact size36); (exact all_oneCell_toArray (arr_oneCell (Ent.mk lv ver more ga gn gc))); generalize hW : World.setCells _ _ _ _ = W1; have HL : Hid (Laid wr W1 [.int .u8 0, .int .u8 0, .int .u8 0, .int .u8 0, .int .u8 0, .int .u8 0, .int .u8 0, .int .u8 0, .int .u8 0, .int .u8 0, .int .u8 0, .int .u8 0, .int .u8 0, .int .u8 0, .int .u8 0, .int .u8 0, .int .u8 0, .int .u8 0, .int .u8 0, .int .u8 0, .int .u8 0, .int .u8 0, .int .u8 0, .int .u8 0, .int .u8 0, .int .u8 0, .int .u8 0, .int .u8 0, .int .u8 0, .int .u8 0, .int .u8 0, .int .u8 0, .int .u16 lv, .slice ga gn gc, .int .i64 ver, .int .i64 more]) := hW ▸ fresh_store wr _ 36 _ rfl; clear hW) | (refine wpList_load_mid rfl 29 (.tmp 23) rfl wr.heap.size 0 rfl [.int .u8 0, .int .u8 0, .int .u8 0, .int .u8 0, .int .u8 0, .int .u8 0, .int .u8 0, .int .u8 0, .int .u8 0, .int .u8 0, .int .u8 0, .int .u8 0, .int .u8 0, .int .u8 0, .int .u8 0, .int .u8 0, .int .u8 0, .int .u8 0, .int .u8 0, .int .u8 0, .int .u8 0, .int .u8 0, .int .u8 0, .int .u8 0, .int .u8 0, .int .u8 0, .int .u8 0, .int .u8 0, .int .u8 0, .int .u8 0, .int .u8 0, .int .u8 0, .int .u16 lv] _ ?_ Yba.underlying29 rfl size29 ?_; (go_must (exact range_take (ys := [.slice ga gn gc, .int .i64 ver, .int .i64 more]) HL.out.2.2))) | (refine wpList_load_mid rfl 29 (.tmp 3) rfl w.heap.size 0 rfl [.int .u8 0, .int .u8 0, .int .u8 0, .int .u8 0, .int .u8 0, .int .u8 0, .int .u8 0, .int .u8 0, .int .u8 0, .int .u8 0, .int .u8 0, .int .u8 0, .int .u8 0, .int .u8 0, .int .u8 0, .int .u8 0, .int .u8 0, .int .u8 0, .int .u8 0, .int .u8 0, .int .u8 0, .int .u8 0, .int .u8 0, .int .u8 0, .int .u8 0, .int .u8 0, .int .u8 0, .int .u8 0, .int .u8 0, .int .u8 0, .int .u8 0, .int .u8 0, .int .u16 o] _ ?_ Yba.underlying29 rfl size29 ?_; (go_must (exact range_below HBX.out HL.out.1)); have hzn := HZN.out))
        clear hzn
        go_roundw
        case rel =>
          have hL := HL.out
          exact ⟨k + 1, g', cc', ov, by omega, by go_num, HOT, by omega, rfl, owns_below HOWN.out hL.1, hb.trans (hL.1.mono (by omega)), by have := hL.1.size; omega, range_below HBX.out hL.1⟩
        case measure => simp [intOf]; omega
    · obtain rfl : k = es.length := by omega
      have hov : ov = others o es := by have := HOV.out; rwa [List.take_of_length_le (Nat.le_refl _)] at this
      have HOV2 := hide hov
      have HOWN := hide hown
      clear hown hov hbx HOV
      by_cases h0 : ov.length = 0
      · go_wp2_with fail
        go_ret
        refine ⟨_, rfl, hb, .inl ⟨?_, rfl⟩⟩
        rw [← HOV2.out]; exact List.eq_nil_of_length_eq_zero h0
      · go_wp2_with fail
        go_ret
        refine ⟨.slice (some ⟨g', 0, none⟩) ov.length cc', rfl, hb, .inr ⟨fun he => h0 (by rw [HOV2.out, he]; rfl), g', cc', by rw [← HOV2.out], ?_⟩⟩
        rw [← HOV2.out]
        exact HOWN.out.mono (by omega)
end Go.Proofs.Ybulkcnwa
