import Derived.Test.YbulkcnwaEq
import Derived.Deep.AppendLies
import Derived.Laws.OwnMore
import Derived.Deep.MidRow
namespace Go.Proofs.Ybulkcnwa
open Go.RowKit
/-- A table's entry: its level, version, more, and its group as a slice. -/
structure Ent where
  lv : Int
  ver : Int
  more : Int
  ga : Option Addr
  gn : Nat
  gc : Nat
/-- An entry's 36 cells. -/
def Ent.arr (e : Ent) : Array Value := #[.int .u8 0, .int .u8 0, .int .u8 0, .int .u8 0, .int .u8 0, .int .u8 0, .int .u8 0, .int .u8 0, .int .u8 0, .int .u8 0, .int .u8 0, .int .u8 0, .int .u8 0, .int .u8 0, .int .u8 0, .int .u8 0, .int .u8 0, .int .u8 0, .int .u8 0, .int .u8 0, .int .u8 0, .int .u8 0, .int .u8 0, .int .u8 0, .int .u8 0, .int .u8 0, .int .u8 0, .int .u8 0, .int .u8 0, .int .u8 0, .int .u8 0, .int .u8 0, .int .u16 e.lv, .slice e.ga e.gn e.gc, .int .i64 e.ver, .int .i64 e.more]
theorem Ent.size (e : Ent) : e.arr.toList.length = 36 := rfl
def flat (es : List Ent) : List Value := es.flatMap fun e => e.arr.toList
theorem flat_append (a b : List Ent) : flat (a ++ b) = flat a ++ flat b := by simp [flat]
theorem flat_one (e : Ent) : flat [e] = e.arr.toList := by simp [flat]
theorem flat_length (es : List Ent) : (flat es).length = es.length * 36 := by
  induction es with
  | nil => rfl
  | cons a l ih =>
    have h : flat (a :: l) = a.arr.toList ++ flat l := by simp [flat]
    rw [h, List.length_append, ih, Ent.size, List.length_cons]; omega
theorem flat_get (es : List Ent) (k j : Nat) (h : k < es.length) (hj : j < 36) : (flat es)[k * 36 + j]? = es[k].arr.toList[j]? := by
  induction es generalizing k with
  | nil => simp at h
  | cons a l ih =>
    have hf : flat (a :: l) = a.arr.toList ++ flat l := by simp [flat]
    rw [hf]
    cases k with
    | zero =>
      rw [List.getElem?_append_left (by rw [Ent.size]; omega)]
      simp
    | succ k =>
      rw [List.getElem?_append_right (by rw [Ent.size]; omega), Ent.size, show (k + 1) * 36 + j - 36 = k * 36 + j by omega, ih k (by simpa using h)]
      simp
theorem arr_oneCell (e : Ent) : ∀ u ∈ e.arr.toList, u.oneCell' = true := by
  intro u hu
  simp only [Ent.arr, List.mem_cons, List.not_mem_nil, or_false] at hu
  rcases hu with rfl | rfl | rfl | rfl | rfl | rfl | rfl | rfl | rfl | rfl | rfl | rfl | rfl | rfl | rfl | rfl | rfl | rfl | rfl | rfl | rfl | rfl | rfl | rfl | rfl | rfl | rfl | rfl | rfl | rfl | rfl | rfl | rfl | rfl | rfl | rfl <;> rfl
theorem info36 : (Yba.prog.info? 36).map (fun i => (i.zero, i.size, i.bytes)) = some (some (.agg #[.int .u8 0, .int .u8 0, .int .u8 0, .int .u8 0, .int .u8 0, .int .u8 0, .int .u8 0, .int .u8 0, .int .u8 0, .int .u8 0, .int .u8 0, .int .u8 0, .int .u8 0, .int .u8 0, .int .u8 0, .int .u8 0, .int .u8 0, .int .u8 0, .int .u8 0, .int .u8 0, .int .u8 0, .int .u8 0, .int .u8 0, .int .u8 0, .int .u8 0, .int .u8 0, .int .u8 0, .int .u8 0, .int .u8 0, .int .u8 0, .int .u8 0, .int .u8 0, .int .u16 0, .slice none 0 0, .int .i64 0, .int .i64 0]), 36, 80) := by kernel_rfl
/-- Entry k of the argument, as the table will hold it. -/
def EntryAt (w : World) (a : Option Addr) (k : Nat) (e : Ent) : Prop :=
  ∃ sb so : Nat, ∃ x : Int, a = some ⟨sb, so, none⟩ ∧ sb < w.heap.size ∧ 0 ≤ x ∧ x ≤ 255 ∧ e.lv = x % 8 ∧ e.gn ≤ maxLen ∧ Texts w e.ga e.gn ∧
    w.cell? ⟨sb, so + k * 4, none⟩ = some (.int .u8 x) ∧ w.cell? ⟨sb, so + k * 4 + 1, none⟩ = some (.int .i64 e.ver) ∧ w.cell? ⟨sb, so + k * 4 + 2, none⟩ = some (.int .i64 e.more) ∧ w.cell? ⟨sb, so + k * 4 + 3, none⟩ = some (.slice e.ga e.gn e.gc)
/-- Block b of w is the row cs of cells of type t. -/
def Blk (w : World) (b : Nat) (t : TypeId) (cs : Array Value) : Prop := w.heap[b]? = some (.cells cs t (0, 0))
theorem Blk.new' {w : World} {n : Nat} {t : TypeId} {cs : Array Value} (hn : n = w.heap.size) : Blk (w.alloc (.cells cs t)) n t cs := by
  subst hn
  show (w.heap.push _)[w.heap.size]? = _
  simp
theorem Blk.cell {w : World} {b : Nat} {t : TypeId} {cs : Array Value} (h : Blk w b t cs) (o : Nat) : w.cell? ⟨b, o, none⟩ = cs[o]? := by
  have h' : w.heap[b]? = some (.cells cs t (0, 0)) := h
  simp [World.cell?, h']
theorem Blk.news {w : World} {b : Nat} {t : TypeId} {cs : Array Value} (h : Blk w b t cs) : ∀ j u, cs.toList[j]? = some u → w.cell? ((⟨b, 0, none⟩ : Addr).add j) = some u := by
  intro j u hj
  rw [Addr.add_mid, Nat.zero_add, h.cell, ← Array.getElem?_toList]
  exact hj
theorem owns_below {w w' : World} {base n s : Nat} {t : TypeId} {v : Value} {xs : List Value} (h : w.ownsRow base t s v n xs) (hb : Below w.heap.size w w') : w'.ownsRow base t s v n xs :=
  h.kept (row := none) ⟨hb.os, hb.tape, hb.output, hb.size, fun k hk _ => hb.block k hk⟩ (by cases hv : v.ownBlock <;> simp)
end Go.Proofs.Ybulkcnwa
