import Derived.Test.YbulkcnwoNote
import Derived.ArgAppend
import Derived.Lib.SliceRun
import Derived.Laws.MakeOwn
namespace Go.Proofs.Ybulkcnwo
open Go.RowKit
section
variable {P : Program} {w : World} {ops : Array Oper} {rest : List Oper} {o : Oper} {a : Act} {Q : Exit → Act → World → Prop}
/-- append, where its run is known. -/
theorem wpList_append_run (hgd : o.guard = none) (s x : Operand) (t t' : TypeId) (ho : o.op = .call { callee := .builtin .append, args := #[s, x], argTypes := #[t, t'] })
    (v u : Value) (hs : a.eval s = v) (hx : a.eval x = u) {v' : Value} {w' : World} (hr : (Builtin.append_ #[t, t'] o.type #[v, u]).run P w = .ok v' w') (h : wpList P ops Q rest (a.put o.dst v') w') : wpList P ops Q (o :: rest) a w :=
  wpList_plain hgd fun K hK => by
    unfold Oper.wp execOp
    simp only [ho, resolve, invoke, builtin, Sem.run_bind, Sem.run_pure, Result.andThen_ok, List.map_toArray, List.map_cons, List.map_nil, hs, hx, hr]
    exact hK _ _ h
/-- make, where its run is known. -/
theorem wpList_make_run (hgd : o.guard = none) (t : TypeId) (l c : Operand) (ho : o.op = .makeSlice t l c)
    (vl vc : Value) (hl : a.eval l = vl) (hc : a.eval c = vc) {v' : Value} {w' : World} (hr : (Instr.makeSlice t vl vc).run P w = .ok v' w') (h : wpList P ops Q rest (a.put o.dst v') w') : wpList P ops Q (o :: rest) a w :=
  wpList_plain hgd fun K hK => by
    unfold Oper.wp execOp
    simp only [ho, Sem.run_bind, Sem.run_pure, Result.andThen_ok, hl, hc, hr]
    exact hK _ _ h
end
/-- A cell stored anew as it was. -/
theorem setCell_self {w : World} {b j : Nat} {v : Value} (h : w.cell? ⟨b, j, none⟩ = some v) : w.setCell ⟨b, j, none⟩ v = w := by
  have hh : (w.setCell ⟨b, j, none⟩ v).heap = w.heap := by
    apply Array.ext_getElem?
    intro k
    by_cases hk : k = b
    · subst hk
      unfold World.cell? at h
      cases hb : w.heap[k]? with
      | none => simp [hb] at h
      | some o =>
        cases o with
        | cells c t fr =>
          simp only [hb, Option.isSome_none, Bool.false_eq_true, if_false] at h
          unfold World.setCell
          simp only [Array.getElem?_modify, if_true, hb, Option.map_some, Option.isSome_none, Bool.false_eq_true, if_false]
          congr 2
          apply Array.ext_getElem?
          intro i
          rw [Array.getElem?_setIfInBounds]
          split
          · next e =>
            subst e
            have hl := (Array.getElem?_eq_some_iff.1 h).1
            rw [if_pos hl, h]
          · rfl
        | _ => simp [hb] at h
    · exact Below.heap_setCell _ _ _ _ hk
  calc w.setCell ⟨b, j, none⟩ v = { w with heap := (w.setCell ⟨b, j, none⟩ v).heap } := rfl
    _ = { w with heap := w.heap } := by rw [hh]
    _ = w := rfl
theorem Keep.trans' {S T : Nat → Prop} {a b c : World} (h : Keep S a b) (k : Keep T b c) (hT : ∀ x, x < a.heap.size → T x → S x) : Keep S a c :=
  ⟨k.os.trans h.os, k.tape.trans h.tape, k.output.trans h.output, Nat.le_trans h.size k.size, fun j hj hs => (k.block j (Nat.lt_of_lt_of_le hj h.size) (fun ht => hs (hT j hj ht))).trans (h.block j hj hs)⟩
theorem LineAt.setRaw {w : World} {L : Nat} {h : Hdr} (k : LineAt w L h) (j : Nat) (v : Value) : (w.setCell ⟨L, j, none⟩ v).heap[L]? = some (.cells (h.arr.setIfInBounds j v) 33 (0, 0)) := by
  have k' : w.heap[L]? = some (.cells h.arr 33 (0, 0)) := k
  unfold World.setCell
  simp [Array.getElem?_modify, k']
theorem LineAt.setSpans {w : World} {L : Nat} {h : Hdr} (k : LineAt w L h) (v : Value) : LineAt (w.setCell ⟨L, 6, none⟩ v) L { h with spans := v } := k.setRaw 6 v
theorem LineAt.setRoutes {w : World} {L : Nat} {h : Hdr} (k : LineAt w L h) (v : Value) : LineAt (w.setCell ⟨L, 0, none⟩ v) L { h with routes := v } := k.setRaw 0 v
theorem LineAt.setHeld {w : World} {L : Nat} {h : Hdr} (k : LineAt w L h) (v : Int) : LineAt (w.setCell ⟨L, 1, none⟩ (.int .i64 v)) L { h with held := v } := k.setRaw 1 _
theorem LineAt.setParked {w : World} {L : Nat} {h : Hdr} (k : LineAt w L h) (v : Int) : LineAt (w.setCell ⟨L, 2, none⟩ (.int .i64 v)) L { h with parked := v } := k.setRaw 2 _
theorem LineAt.setFew {w : World} {L : Nat} {h : Hdr} (k : LineAt w L h) (v : Value) : LineAt (w.setCell ⟨L, 4, none⟩ v) L { h with few := v } := k.setRaw 4 v
theorem LineAt.setMany {w : World} {L : Nat} {h : Hdr} (k : LineAt w L h) (v : Value) : LineAt (w.setCell ⟨L, 5, none⟩ v) L { h with many := v } := k.setRaw 5 v
/-- A new row of empty spans. -/
def Sp0 : Sp := ⟨none, none, none⟩
theorem info67 : (Yba.prog.info? 67).map (fun i => (i.zero, i.size, i.bytes)) = some (some (.agg #[.pointer none, .pointer none, .pointer none]), 3, 24) := by kernel_rfl
theorem make_spans (w : World) (m : Nat) (hm : m ≤ 100000) : (Instr.makeSlice 30 (.int .i64 (m : Int)) (.int .i64 (m : Int))).run Yba.prog w = .ok (.slice (some ⟨w.heap.size, 0, none⟩) m m) (w.alloc (.cells (madeCells #[.pointer none, .pointer none, .pointer none] (m * 3)) 67)) := by
  obtain ⟨i0, hi, hz0, hz1, hz2⟩ := info_parts info67
  have := run_make w 30 67 i0 _ Yba.underlying30 hi hz0 .i64 .i64 (m : Int) (m : Int) (by omega) (by omega) (by rw [hz2]; omega) (by omega)
  rw [hz1] at this
  simpa [Value.cells] using this
theorem spans_new (w : World) (m : Nat) (bs : Nat → Nat) : Spans (w.alloc (.cells (madeCells #[.pointer none, .pointer none, .pointer none] (m * 3)) 67)) w.heap.size m bs (fun _ => Sp0) := by
  have hb : (w.alloc (.cells (madeCells #[.pointer none, .pointer none, .pointer none] (m * 3)) 67)).heap[w.heap.size]? = some (.cells (madeCells #[.pointer none, .pointer none, .pointer none] (m * 3)) 67 (0, 0)) := new_block
  have hc : ∀ j, j < m * 3 → (w.alloc (.cells (madeCells #[.pointer none, .pointer none, .pointer none] (m * 3)) 67)).cell? ⟨w.heap.size, j, none⟩ = some (.pointer none) := by
    intro j hj
    simp only [World.cell?, hb]
    simp only [madeCells, Option.isSome_none, Bool.false_eq_true, if_false]
    rw [Array.getElem?_eq_getElem (by simp; omega)]
    simp only [Array.getElem_map, Array.getElem_range]
    rcases (show j % 3 = 0 ∨ j % 3 = 1 ∨ j % 3 = 2 by omega) with h | h | h <;> simp [h]
  refine ⟨⟨_, _, hb⟩, fun j => ?_, fun i hi => ⟨hc _ (by omega), hc _ (by omega), hc _ (by omega)⟩⟩
  simp only [World.frozen?, hb]
  simp
end Go.Proofs.Ybulkcnwo
