import Derived.Test.YbulkcnuyBit
import Derived.Laws.OwnMore
import Derived.Deep.AppendLies
namespace Go.Proofs.Ybulkcnuy
open Go.RowKit

/-- A step as it lies in memory: Op, A, B, O, D, N. -/
def StepAt (w : World) (a : Option Addr) (k : Nat) : Prop :=
  ∃ sb so : Nat, ∃ o x b m d n : Int, a = some ⟨sb, so, none⟩ ∧ sb < w.heap.size ∧ 0 ≤ o ∧ o ≤ 255 ∧ 0 ≤ x ∧ x ≤ 255 ∧ 0 ≤ b ∧ b ≤ 255 ∧ 0 ≤ m ∧ m ≤ 255 ∧ 0 ≤ d ∧ d ≤ 255 ∧ -2147483648 ≤ n ∧ n ≤ 2147483647 ∧
    w.cell? ⟨sb, so + k * 6, none⟩ = some (.int .u8 o) ∧ w.cell? ⟨sb, so + k * 6 + 1, none⟩ = some (.int .u8 x) ∧ w.cell? ⟨sb, so + k * 6 + 2, none⟩ = some (.int .u8 b) ∧
    w.cell? ⟨sb, so + k * 6 + 3, none⟩ = some (.int .u8 m) ∧ w.cell? ⟨sb, so + k * 6 + 4, none⟩ = some (.int .u8 d) ∧ w.cell? ⟨sb, so + k * 6 + 5, none⟩ = some (.int .i32 n)

/-- The stack's cells: a pointer and a bool an item. -/
def flat (its : List (Nat × Bool)) : List Value := its.flatMap fun x => [.pointer (some ⟨x.1, 0, none⟩), .bool x.2]
theorem flat_cons (a : Nat × Bool) (l : List (Nat × Bool)) : flat (a :: l) = .pointer (some ⟨a.1, 0, none⟩) :: .bool a.2 :: flat l := by simp [flat]
theorem flat_length (its : List (Nat × Bool)) : (flat its).length = its.length * 2 := by
  induction its with
  | nil => rfl
  | cons a l ih => rw [flat_cons]; simp only [List.length_cons, ih]; omega
theorem flat_append (a b : List (Nat × Bool)) : flat (a ++ b) = flat a ++ flat b := by simp [flat]
theorem flat_ptr (its : List (Nat × Bool)) (j : Nat) (h : j < its.length) : (flat its)[j * 2]? = some (.pointer (some ⟨its[j].1, 0, none⟩)) := by
  induction its generalizing j with
  | nil => simp at h
  | cons a l ih =>
    rw [flat_cons]
    cases j with
    | zero => simp
    | succ j =>
      have e : (j + 1) * 2 = j * 2 + 1 + 1 := by omega
      rw [e, List.getElem?_cons_succ, List.getElem?_cons_succ, ih j (by simpa using h)]
      simp
theorem flat_bool (its : List (Nat × Bool)) (j : Nat) (h : j < its.length) : (flat its)[j * 2 + 1]? = some (.bool its[j].2) := by
  induction its generalizing j with
  | nil => simp at h
  | cons a l ih =>
    rw [flat_cons]
    cases j with
    | zero => simp
    | succ j =>
      have e : (j + 1) * 2 + 1 = (j * 2 + 1) + 1 + 1 := by omega
      rw [e, List.getElem?_cons_succ, List.getElem?_cons_succ, ih j (by simpa using h)]
      simp
theorem flat_set (l : List (Nat × Bool)) (a : Nat × Bool) (p : Nat) (b : Bool) :
    ((flat (l ++ [a])).set (l.length * 2) (.pointer (some ⟨p, 0, none⟩))).set (l.length * 2 + 1) (.bool b) = flat (l ++ [(p, b)]) := by
  have h := flat_length l
  rw [flat_append, flat_append, List.set_append_right _ _ (by omega), List.set_append_right _ _ (by omega)]
  have e1 : l.length * 2 - (flat l).length = 0 := by omega
  have e2 : l.length * 2 + 1 - (flat l).length = 1 := by omega
  rw [e1, e2]
  rfl

/-- What the loop keeps: the stack owns its row; each item's formula comes to its bool; the cut lies; nothing older has turned. -/
def Inv (w : World) (c : Nat → Nat) (k : Nat) (v : Value) (its : List (Nat × Bool)) (wr : World) : Prop :=
  its.length ≤ k ∧ wr.ownsRow (w.heap.size + 2) 38 2 v its.length (flat its) ∧ (∀ x ∈ its, Good (w.heap.size + 1) wr x.1 x.2) ∧ Cut wr (w.heap.size + 1) c ∧ Below w.heap.size w wr ∧ w.heap.size + 2 ≤ wr.heap.size

theorem items_of_owns {w : World} {base n : Nat} {v : Value} {xs : List Value} (h : w.ownsRow base 38 2 v n xs) : ∀ k, v.ownBlock = some k → Items w k := by
  intro k hk
  rcases h.2 with ⟨rfl, _⟩ | ⟨g, cap, cur, rfl, _, hg, _⟩
  · simp [Value.ownBlock] at hk
  · simp only [Value.ownBlock, Option.some.injEq] at hk
    subst hk
    exact ⟨cur, _, hg⟩
theorem owns_below {w w' : World} {base n : Nat} {v : Value} {xs : List Value} (h : w.ownsRow base 38 2 v n xs) (hb : Below w.heap.size w w') : w'.ownsRow base 38 2 v n xs :=
  h.kept (row := none) ⟨hb.os, hb.tape, hb.output, hb.size, fun k hk _ => hb.block k hk⟩ (by cases hv : v.ownBlock <;> simp)

section
variable {w wr W w' : World} {c : Nat → Nat} {k : Nat} {v v' : Value} {its : List (Nat × Bool)}
/-- New blocks alone. -/
theorem Inv.below (h : Inv w c k v its wr) (hb : Below wr.heap.size wr W) : Inv w c k v its W := by
  obtain ⟨h1, h2, h3, h4, h5, h6⟩ := h
  have hk := Kept.of_below hb
  exact ⟨h1, owns_below h2 hb, fun x hx => (h3 x hx).later hk, h4.kept hk, h5.trans (hb.mono h5.size), Nat.le_trans h6 hb.size⟩
theorem Inv.step (h : Inv w c k v its wr) : Inv w c (k + 1) v its wr := ⟨Nat.le_succ_of_le h.1, h.2⟩
/-- An item pushed. -/
theorem Inv.push (h : Inv w c k v its W) {p : Nat} {b : Bool} (hg : Good (w.heap.size + 1) W p b)
    (ho : w'.ownsRow (w.heap.size + 2) 38 2 v' (its.length + 1) (flat its ++ [.pointer (some ⟨p, 0, none⟩), .bool b])) (hgr : W.grownBy w' v.ownBlock) : Inv w c (k + 1) v' (its ++ [(p, b)]) w' := by
  obtain ⟨h1, h2, h3, h4, h5, h6⟩ := h
  have hk := Kept.of_grown hgr (items_of_owns h2)
  refine ⟨by simp; omega, ?_, ?_, h4.kept hk, h5.grown hgr (by omega) (fun k e => by have := (h2.lt k e).1; omega), Nat.le_trans h6 hk.1⟩
  · rw [flat_append]
    simpa [flat] using ho
  · intro x hx
    rcases List.mem_append.1 hx with hx | hx
    · exact (h3 x hx).later hk
    · rw [List.mem_singleton] at hx
      subst hx
      exact hg.later hk
/-- The last item put anew. -/
theorem Inv.put {l : List (Nat × Bool)} {a : Nat × Bool} {g cap : Nat} (h : Inv w c k (.slice (some ⟨g, 0, none⟩) (l.length + 1) cap) (l ++ [a]) W) {p : Nat} {b : Bool} (hg : Good (w.heap.size + 1) W p b) :
    Inv w c (k + 1) (.slice (some ⟨g, 0, none⟩) (l.length + 1) cap) (l ++ [(p, b)]) ((W.setCell ⟨g, l.length * 2, none⟩ (.pointer (some ⟨p, 0, none⟩))).setCell ⟨g, l.length * 2 + 1, none⟩ (.bool b)) := by
  obtain ⟨h1, h2, h3, h4, h5, h6⟩ := h
  have hlen : (l ++ [a]).length = l.length + 1 := by simp
  rw [hlen] at h2 h1
  obtain ⟨s1, r1⟩ := h2.stored (l.length * 2) (.pointer (some ⟨p, 0, none⟩))
  obtain ⟨s2, r2⟩ := s1.stored (l.length * 2 + 1) (.bool b)
  have hk := (Kept.of_grown r1 (fun k e => items_of_owns h2 k (by simpa [Value.ownBlock] using e))).trans (Kept.of_grown r2 (fun k e => items_of_owns s1 k (by simpa [Value.ownBlock] using e)))
  have hgb : w.heap.size ≤ g := by have := (h2.lt g rfl).1; omega
  refine ⟨by simp; omega, ?_, ?_, h4.kept hk, (h5.setCell hgb _).setCell hgb _, Nat.le_trans h6 hk.1⟩
  · rw [flat_set] at s2
    simpa using s2
  · intro x hx
    rcases List.mem_append.1 hx with hx | hx
    · exact (h3 x (List.mem_append_left _ hx)).later hk
    · rw [List.mem_singleton] at hx
      subst hx
      exact hg.later hk
/-- The last item put anew, new blocks laid besides. -/
theorem Inv.put2 {l : List (Nat × Bool)} {a : Nat × Bool} {g cap q : Nat} (hq : q = l.length) (h : Inv w c k (.slice (some ⟨g, 0, none⟩) (q + 1) cap) (l ++ [a]) wr) {p : Nat} {b : Bool}
    (hb : Below wr.heap.size ((wr.setCell ⟨g, q * 2, none⟩ (.pointer (some ⟨p, 0, none⟩))).setCell ⟨g, q * 2 + 1, none⟩ (.bool b)) W) (hg : Kept wr W → Good (w.heap.size + 1) W p b) :
    Inv w c (k + 1) (.slice (some ⟨g, 0, none⟩) (q + 1) cap) (l ++ [(p, b)]) W := by
  subst hq
  obtain ⟨h1, h2, h3, h4, h5, h6⟩ := h
  have hlen : (l ++ [a]).length = l.length + 1 := by simp
  rw [hlen] at h2 h1
  obtain ⟨s1, r1⟩ := h2.stored (l.length * 2) (.pointer (some ⟨p, 0, none⟩))
  obtain ⟨s2, r2⟩ := s1.stored (l.length * 2 + 1) (.bool b)
  have hs : ((wr.setCell ⟨g, l.length * 2, none⟩ (.pointer (some ⟨p, 0, none⟩))).setCell ⟨g, l.length * 2 + 1, none⟩ (.bool b)).heap.size = wr.heap.size := by simp [World.setCell]
  have hb' : Below ((wr.setCell ⟨g, l.length * 2, none⟩ (.pointer (some ⟨p, 0, none⟩))).setCell ⟨g, l.length * 2 + 1, none⟩ (.bool b)).heap.size ((wr.setCell ⟨g, l.length * 2, none⟩ (.pointer (some ⟨p, 0, none⟩))).setCell ⟨g, l.length * 2 + 1, none⟩ (.bool b)) W := hb.mono (by rw [hs]; exact Nat.le_refl _)
  have hk := ((Kept.of_grown r1 (fun k e => items_of_owns h2 k (by simpa [Value.ownBlock] using e))).trans (Kept.of_grown r2 (fun k e => items_of_owns s1 k (by simpa [Value.ownBlock] using e)))).trans (Kept.of_below hb')
  have hgb : w.heap.size ≤ g := by have := (h2.lt g rfl).1; omega
  refine ⟨by simp; omega, ?_, ?_, h4.kept hk, ((h5.setCell hgb _).setCell hgb _).trans (hb.mono (by have := h5.size; omega)), Nat.le_trans h6 hk.1⟩
  · have s3 := owns_below s2 hb'
    rw [flat_set] at s3
    simpa using s3
  · intro x hx
    rcases List.mem_append.1 hx with hx | hx
    · exact (h3 x (List.mem_append_left _ hx)).later hk
    · rw [List.mem_singleton] at hx
      subst hx
      exact hg hk
/-- Some items popped. -/
theorem Inv.pop {l r : List (Nat × Bool)} {g cap n : Nat} (h : Inv w c k (.slice (some ⟨g, 0, none⟩) n cap) (l ++ r) W) : Inv w c k (.slice (some ⟨g, 0, none⟩) l.length cap) l W := by
  obtain ⟨h1, h2, h3, h4, h5, h6⟩ := h
  refine ⟨by simp at h1; omega, ?_, fun x hx => h3 x (List.mem_append_left _ hx), h4, h5, h6⟩
  obtain ⟨_, h2'⟩ := h2
  rcases h2' with ⟨h0, _⟩ | ⟨g', cap', cur, hv, hg, hh, hn, hcap, hsz, htake⟩
  · cases h0
  · cases hv
    refine ⟨flat_length l, .inr ⟨g, cap, cur, rfl, hg, hh, by simp at hn; omega, hcap, hsz, ?_⟩⟩
    have h3 : (cur.toList.take ((l ++ r).length * 2)).take (l.length * 2) = (flat (l ++ r)).take (l.length * 2) := by rw [htake]
    rw [List.take_take, Nat.min_eq_left (by simp; omega), flat_append, ← flat_length l, List.take_left] at h3
    rw [flat_length l] at h3
    exact h3
theorem Inv.nil (h : Inv w c k (.slice none 0 0) its W) : its = [] := by
  rcases h.2.1.2 with ⟨_, h0⟩ | ⟨g, cap, cur, hv, _⟩
  · exact List.length_eq_zero_iff.1 h0
  · cases hv
theorem Inv.cells {g n cap : Nat} (h : Inv w c k (.slice (some ⟨g, 0, none⟩) n cap) its W) (j : Nat) (hj : j < its.length) :
    n = its.length ∧ W.cell? ⟨g, j * 2, none⟩ = some (.pointer (some ⟨its[j].1, 0, none⟩)) ∧ W.cell? ⟨g, j * 2 + 1, none⟩ = some (.bool its[j].2) ∧ W.frozen? ⟨g, j * 2, none⟩ = false ∧ W.frozen? ⟨g, j * 2 + 1, none⟩ = false ∧ g < W.heap.size ∧ w.heap.size + 2 ≤ g := by
  have h2 := h.2.1
  have hn : n = its.length := by
    rcases h2.2 with ⟨h0, _⟩ | ⟨g', cap', cur, hv, _⟩
    · cases h0
    · cases hv; rfl
  subst hn
  have hl := h2.lt g rfl
  exact ⟨rfl, (h2.cellAt (j * 2) (by omega)).trans (flat_ptr its j hj), (h2.cellAt (j * 2 + 1) (by omega)).trans (flat_bool its j hj), h2.frozenAt _, h2.frozenAt _, hl.2, hl.1⟩
/-- The stack's value. -/
theorem Inv.form (h : Inv w c k v its W) : (v = .slice none 0 0 ∧ its = []) ∨ ∃ g cap n, v = .slice (some ⟨g, 0, none⟩) n cap ∧ n = its.length ∧ n ≤ cap ∧ g < W.heap.size ∧ w.heap.size + 2 ≤ g := by
  rcases h.2.1.2 with ⟨h0, h1⟩ | ⟨g, cap, cur, hv, hb, hh, hn, _⟩
  · exact .inl ⟨h0, List.length_eq_zero_iff.1 h1⟩
  · exact .inr ⟨g, cap, _, hv, rfl, hn, (Array.getElem?_eq_some_iff.1 hh).1, hb⟩
end
end Go.Proofs.Ybulkcnuy
