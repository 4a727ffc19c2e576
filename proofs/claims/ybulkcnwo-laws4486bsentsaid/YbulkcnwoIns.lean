import Derived.Test.YbulkcnwoCmp
import Derived.Maps.AppendAt
import Derived.Laws.IdiomCopy
import Derived.Lib.AppendZerosOnto
import Derived.Deep.RegionLaw
namespace Go.Proofs.Ybulkcnwo
open Go.RowKit
section
variable {P : Program}
/-- copy of cells of elements of s cells. -/
theorem run_copy_cells_n (w : World) (dT sT ty elem : TypeId) (b o dLen dCap : Nat) (a : Addr) (sLen sCap s : Nat) (cs : List Value)
    (hu : P.underlying dT = some (.slice elem)) (hs : (P.info? elem).map (·.size) = some s) (hn : cs.length = Nat.min sLen dLen * s)
    (hsrc : ∀ j v, cs[j]? = some v → w.cell? (a.add j) = some v) (hc : ∀ j, j < cs.length → (w.cell? ⟨b, o + j, none⟩).isSome = true) (hf : ∀ j, j < cs.length → w.frozen? ⟨b, o + j, none⟩ = false) (h1 : ∀ v ∈ cs, v.oneCell' = true) :
    (Builtin.copy_ #[dT, sT] ty #[.slice (some ⟨b, o, none⟩) dLen dCap, .slice (some a) sLen sCap]).run P w = .ok (goInt (Nat.min sLen dLen)) (w.setCells b o cs) := by
  have hl := run_loadCells_list (P := P) w a cs hsrc
  have hst := run_storeCells_cells (P := P) b o cs 0 w (by simpa using hc) (by simpa using hf) h1
  cases hq : P.info? elem with
  | none => simp [hq] at hs
  | some i =>
    have hi : i.size = s := by simpa [hq] using hs
    simp [Builtin.copy_, run_underlying hu, Builtin.lenOf, Builtin.firstCells, sizeOf, typeInfo, hq, hi, ← hn, hl, hst]
theorem wpList_copy_run {w : World} {ops : Array Oper} {rest : List Oper} {o : Oper} {a : Act} {Q : Exit → Act → World → Prop} (hgd : o.guard = none) (d s : Operand) (t t' : TypeId)
    (ho : o.op = .call { callee := .builtin .copy, args := #[d, s], argTypes := #[t, t'] }) (v u : Value) (hd : a.eval d = v) (hs : a.eval s = u) {v' : Value} {w' : World}
    (hr : (Builtin.copy_ #[t, t'] o.type #[v, u]).run P w = .ok v' w') (h : wpList P ops Q rest (a.put o.dst v') w') : wpList P ops Q (o :: rest) a w :=
  wpList_plain hgd fun K hK => by
    unfold Oper.wp execOp
    simp only [ho, resolve, invoke, builtin, Sem.run_bind, Sem.run_pure, Result.andThen_ok, List.map_toArray, List.map_cons, List.map_nil, hd, hs, hr]
    exact hK _ _ h
theorem step_copy_run {ops : Array Oper} {o : Oper} {a : Act} {w : World} {K : Act → World → Prop} {Q : Exit → Act → World → Prop} {E : Prop}
    (hg : o.guard = none) (d x : Operand) (dT sT : TypeId) (hop : o.op = Op.call { callee := Callee.builtin Builtin.copy, args := #[d, x], argTypes := #[dT, sT] })
    (v u : Value) (hd : a.eval d = v) (hx : a.eval x = u) {v' : Value} {w' : World} (hr : (Builtin.copy_ #[dT, sT] o.type #[v, u]).run P w = .ok v' w') (hK : K (a.put o.dst v') w') :
    if Region.wanted o (yielded ops a.tmps) = true then Oper.wp P o a w K Q else E := by
  have hw : Region.wanted o (yielded ops a.tmps) = true := by simp [Region.wanted, hg]
  rw [if_pos hw]
  unfold Oper.wp
  simp [execOp, hop, resolve, invoke, builtin, hd, hx, hr, Result.andThen]
  exact hK
end
/-- A block of cells: its type and size, none frozen. -/
def Shape (w : World) (b : Nat) (t : TypeId) (s : Nat) : Prop := ∃ cur : Array Value, w.heap[b]? = some (.cells cur t (0, 0)) ∧ cur.size = s
theorem Shape.setCell {w : World} {b : Nat} {t : TypeId} {s : Nat} (h : Shape w b t s) (p : Addr) (u : Value) : Shape (w.setCell p u) b t s := by
  obtain ⟨cur, h, hs⟩ := h
  by_cases hp : p.block = b
  · subst hp
    unfold Shape World.setCell
    simp only [Array.getElem?_modify, if_true, h, Option.map_some]
    exact ⟨_, rfl, by split <;> simp [hs]⟩
  · exact ⟨cur, (Below.heap_setCell _ _ _ _ (fun e => hp e.symm)).trans h, hs⟩
theorem Shape.setCells {b : Nat} {t : TypeId} {s : Nat} (c : Nat) : ∀ (vs : List Value) (o : Nat) (w : World), Shape w b t s → Shape (w.setCells c o vs) b t s
  | [], _, _, h => h
  | v :: r, o, _, h => Shape.setCells c r (o + 1) _ (h.setCell ⟨c, o, none⟩ v)
theorem Shape.some {w : World} {b : Nat} {t : TypeId} {s : Nat} (h : Shape w b t s) (j : Nat) (hj : j < s) : (w.cell? ⟨b, j, none⟩).isSome = true := by
  obtain ⟨cur, h, hs⟩ := h
  simp only [World.cell?, h]
  simp
  omega
theorem Shape.frozen {w : World} {b : Nat} {t : TypeId} {s : Nat} (h : Shape w b t s) (j : Nat) : w.frozen? ⟨b, j, none⟩ = false := by
  obtain ⟨cur, h, hs⟩ := h
  simp only [World.frozen?, h]; simp
theorem Shape.ty {w : World} {b : Nat} {t : TypeId} {s : Nat} (h : Shape w b t s) : Ty w b t := by
  obtain ⟨cur, h, hs⟩ := h
  exact ⟨_, _, h⟩
theorem owns_shape {w : World} {B g n cap : Nat} {xs : List Value} (h : w.ownsRow B 74 2 (.slice (some ⟨g, 0, none⟩) n cap) n xs) : Shape w g 74 (cap * 2) ∧ n ≤ cap ∧ cap ≤ maxLen ∧ B ≤ g ∧ xs.length = n * 2 := by
  refine ⟨?_, ?_⟩ <;> rcases h.2 with ⟨h0, _⟩ | ⟨g', cap', cur, hv, hbg, hg, hnc, hcm, hcs, htake⟩
  · cases h0
  · cases hv; exact ⟨cur, hg, hcs⟩
  · cases h0
  · cases hv; exact ⟨hnc, hcm, hbg, h.1⟩
theorem owns_of_shape {w : World} {B g n cap : Nat} {xs : List Value} (h : Shape w g 74 (cap * 2)) (hB : B ≤ g) (hn : n ≤ cap) (hc : cap ≤ maxLen) (hx : xs.length = n * 2) (hcell : ∀ j, j < n * 2 → w.cell? ⟨g, j, none⟩ = xs[j]?) :
    w.ownsRow B 74 2 (.slice (some ⟨g, 0, none⟩) n cap) n xs := by
  obtain ⟨cur, h, hs⟩ := h
  refine ⟨hx, .inr ⟨g, cap, cur, rfl, hB, h, hn, hc, hs, ?_⟩⟩
  apply List.ext_getElem?
  intro j
  by_cases hj : j < n * 2
  · rw [List.getElem?_take_of_lt hj, ← hcell j hj]
    simp only [World.cell?, h]
    simp
  · rw [List.getElem?_eq_none (by simp; omega), List.getElem?_eq_none (by omega)]
theorem info74 : (Yba.prog.info? 74).map (fun i => (i.zero, i.size, i.bytes)) = some (some (.agg #[.string ⟨#[]⟩, .int .i64 0]), 2, 24) := by kernel_rfl
theorem size74 : (Yba.prog.info? 74).map (·.size) = some 2 := by kernel_rfl
theorem keep_setCells {S : Nat → Prop} {a : World} (b : Nat) (hS : S b ∨ a.heap.size ≤ b) : ∀ (vs : List Value) (o : Nat) (w : World), Keep S a w → Keep S a (w.setCells b o vs)
  | [], _, _, h => h
  | v :: r, o, _, h => keep_setCells b hS r (o + 1) _ (h.setCell (p := ⟨b, o, none⟩) hS v)
theorem Keep.grown {a b c : World} {S : Nat → Prop} {row : Option Nat} (h : Keep S a b) (hg : b.grownBy c row) (hr : ∀ k, row = some k → S k ∨ a.heap.size ≤ k) : Keep S a c :=
  ⟨hg.os.trans h.os, hg.tape.trans h.tape, hg.output.trans h.output, Nat.le_trans h.size hg.size, fun k hk hs => (hg.block k (Nat.lt_of_lt_of_le hk h.size) (fun e => (hr k e.symm).elim hs (fun h => absurd hk (by omega)))).trans (h.block k hk hs)⟩
end Go.Proofs.Ybulkcnwo
