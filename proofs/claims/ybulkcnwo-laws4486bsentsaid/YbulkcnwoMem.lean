import Derived.Test.YbulkcnwoJoin2
namespace Go.Proofs.Ybulkcnwo
open Go.RowKit
/-- Every block that stood is as it was, but those of S. -/
structure Keep (S : Nat → Prop) (w w' : World) : Prop where
  os : w'.os = w.os
  tape : w'.tape = w.tape
  output : w'.output = w.output
  size : w.heap.size ≤ w'.heap.size
  block : ∀ k, k < w.heap.size → ¬ S k → w'.heap[k]? = w.heap[k]?
theorem Keep.refl (S : Nat → Prop) (w : World) : Keep S w w := ⟨rfl, rfl, rfl, Nat.le_refl _, fun _ _ _ => rfl⟩
theorem Keep.trans {S : Nat → Prop} {a b c : World} (h : Keep S a b) (k : Keep S b c) : Keep S a c :=
  ⟨k.os.trans h.os, k.tape.trans h.tape, k.output.trans h.output, Nat.le_trans h.size k.size, fun j hj hs => (k.block j (Nat.lt_of_lt_of_le hj h.size) hs).trans (h.block j hj hs)⟩
theorem Keep.mono {S T : Nat → Prop} {a b : World} (h : Keep S a b) (hS : ∀ k, k < a.heap.size → S k → T k) : Keep T a b := ⟨h.os, h.tape, h.output, h.size, fun k hk ht => h.block k hk (fun hs => ht (hS k hk hs))⟩
theorem Keep.below {S : Nat → Prop} {a b c : World} (h : Keep S a b) (k : Below b.heap.size b c) : Keep S a c :=
  ⟨k.os.trans h.os, k.tape.trans h.tape, k.output.trans h.output, Nat.le_trans h.size k.size, fun j hj hs => (k.block j (Nat.lt_of_lt_of_le hj h.size)).trans (h.block j hj hs)⟩
theorem Keep.drew {S : Nat → Prop} {a b : World} (h : Keep S a b) : Keep S a b.drew := ⟨h.os, h.tape, h.output, h.size, h.block⟩
theorem Keep.alloc {S : Nat → Prop} {a b : World} (h : Keep S a b) (o : Obj) : Keep S a (b.alloc o) := h.below ((Below.refl _ _).alloc (Nat.le_refl _) o)
theorem Keep.setCell {S : Nat → Prop} {a b : World} (h : Keep S a b) {p : Addr} (hp : S p.block ∨ a.heap.size ≤ p.block) (u : Value) : Keep S a (b.setCell p u) :=
  ⟨h.os, h.tape, h.output, by show a.heap.size ≤ (Array.modify _ _ _).size; rw [Array.size_modify]; exact h.size, fun k hk hs => by
    rw [Below.heap_setCell _ _ _ _ (by rintro rfl; exact hp.elim hs (fun h => absurd hk (by omega)))]
    exact h.block k hk hs⟩
theorem Keep.cell {S : Nat → Prop} {a b : World} (h : Keep S a b) {p : Addr} (hp : p.block < a.heap.size) (hs : ¬ S p.block) : b.cell? p = a.cell? p := World.cell?_of_block (w := a) (h.block p.block hp hs)
theorem Keep.frozen {S : Nat → Prop} {a b : World} (h : Keep S a b) {p : Addr} (hp : p.block < a.heap.size) (hs : ¬ S p.block) : b.frozen? p = a.frozen? p := World.frozen?_of_block (w := a) (h.block p.block hp hs)
/-- A block of cells of type t. -/
def Ty (w : World) (b : Nat) (t : TypeId) : Prop := ∃ cs fr, w.heap[b]? = some (.cells cs t fr)
theorem Ty.ne {w : World} {b c : Nat} {t u : TypeId} (h : Ty w b t) (k : Ty w c u) (htu : t ≠ u) : b ≠ c := by
  rintro rfl
  obtain ⟨_, _, h⟩ := h
  obtain ⟨_, _, k⟩ := k
  rw [h] at k
  injection k with k
  injection k with _ k _
  exact htu k
theorem Ty.lt {w : World} {b : Nat} {t : TypeId} (h : Ty w b t) : b < w.heap.size := by
  obtain ⟨_, _, h⟩ := h
  rcases Nat.lt_or_ge b w.heap.size with hlt | hge
  · exact hlt
  · rw [Array.getElem?_eq_none hge] at h; cases h
theorem Ty.keep {S : Nat → Prop} {w w' : World} {b : Nat} {t : TypeId} (h : Ty w b t) (k : Keep S w w') (hs : ¬ S b) : Ty w' b t := by
  have hl := h.lt
  obtain ⟨cs, fr, h⟩ := h
  exact ⟨cs, fr, (k.block b hl hs).trans h⟩
theorem Ty.drew {w : World} {b : Nat} {t : TypeId} (h : Ty w b t) : Ty w.drew b t := h
theorem Ty.setCell {w : World} {b : Nat} {t : TypeId} (h : Ty w b t) (p : Addr) (u : Value) : Ty (w.setCell p u) b t := by
  obtain ⟨cs, fr, h⟩ := h
  by_cases hp : p.block = b
  · subst hp
    unfold Ty World.setCell
    simp only [Array.getElem?_modify, if_true, h, Option.map_some]
    exact ⟨_, _, rfl⟩
  · exact ⟨cs, fr, (Below.heap_setCell _ _ _ _ (fun e => hp e.symm)).trans h⟩
theorem Ty.below {w w' : World} {b : Nat} {t : TypeId} (h : Ty w b t) (k : Below w.heap.size w w') : Ty w' b t := by
  have hl := h.lt
  obtain ⟨cs, fr, h⟩ := h
  exact ⟨cs, fr, (k.block b hl).trans h⟩
/-- The spans in block g: m of them. -/
def Spans (w : World) (g m : Nat) (bs : Nat → Nat) (sp : Nat → Sp) : Prop :=
  Ty w g 67 ∧ (∀ j, w.frozen? ⟨g, j, none⟩ = false) ∧ ∀ i, i < m → w.cell? ⟨g, i * 3, none⟩ = some (.pointer (pp bs (sp i).lead)) ∧ w.cell? ⟨g, i * 3 + 1, none⟩ = some (.pointer (pp bs (sp i).first)) ∧ w.cell? ⟨g, i * 3 + 2, none⟩ = some (.pointer (pp bs (sp i).last))
theorem Spans.below {w w' : World} {g m : Nat} {bs : Nat → Nat} {sp : Nat → Sp} (h : Spans w g m bs sp) (k : Below w.heap.size w w') : Spans w' g m bs sp := by
  have hl := h.1.lt
  refine ⟨h.1.below k, fun j => (k.frozen (p := ⟨g, j, none⟩) hl).trans (h.2.1 j), fun i hi => ?_⟩
  obtain ⟨h1, h2, h3⟩ := h.2.2 i hi
  exact ⟨(k.cell (p := ⟨g, i * 3, none⟩) hl).trans h1, (k.cell (p := ⟨g, i * 3 + 1, none⟩) hl).trans h2, (k.cell (p := ⟨g, i * 3 + 2, none⟩) hl).trans h3⟩
def upd {α : Type} (f : Nat → α) (i : Nat) (x : α) : Nat → α := fun k => if k = i then x else f k
theorem upd_same {α : Type} (f : Nat → α) (i : Nat) (x : α) : upd f i x i = x := by simp [upd]
theorem upd_other {α : Type} (f : Nat → α) {i k : Nat} (x : α) (h : k ≠ i) : upd f i x k = f k := by simp [upd, h]
/-- A span stored. -/
theorem Spans.store {w : World} {g m : Nat} {bs : Nat → Nat} {sp : Nat → Sp} (h : Spans w g m bs sp) (i : Nat) (hi : i < m) (s : Sp) :
    Spans (((w.setCell ⟨g, i * 3, none⟩ (.pointer (pp bs s.lead))).setCell ⟨g, i * 3 + 1, none⟩ (.pointer (pp bs s.first))).setCell ⟨g, i * 3 + 2, none⟩ (.pointer (pp bs s.last))) g m bs (upd sp i s) := by
  refine ⟨((h.1.setCell _ _).setCell _ _).setCell _ _, fun j => by rw [World.frozen?_setCell, World.frozen?_setCell, World.frozen?_setCell]; exact h.2.1 j, fun k hk => ?_⟩
  obtain ⟨h1, h2, h3⟩ := h.2.2 k hk
  by_cases hki : k = i
  · subst hki
    rw [upd_same]
    have n1 : (⟨g, k * 3 + 1, none⟩ : Addr) ≠ ⟨g, k * 3, none⟩ := fun e => by injection e with _ e _; omega
    have n2 : (⟨g, k * 3 + 2, none⟩ : Addr) ≠ ⟨g, k * 3, none⟩ := fun e => by injection e with _ e _; omega
    have n3 : (⟨g, k * 3 + 2, none⟩ : Addr) ≠ ⟨g, k * 3 + 1, none⟩ := fun e => by injection e with _ e _; omega
    refine ⟨?_, ?_, ?_⟩
    · rw [World.cell?_setCell_other _ _ _ _ n2, World.cell?_setCell_other _ _ _ _ n1, World.cell?_setCell_same _ _ _ h1]
    · rw [World.cell?_setCell_other _ _ _ _ n3, World.cell?_setCell_same _ _ _ (by rw [World.cell?_setCell_other _ _ _ _ n1.symm]; exact h2)]
    · rw [World.cell?_setCell_same _ _ _ (by rw [World.cell?_setCell_other _ _ _ _ n3.symm, World.cell?_setCell_other _ _ _ _ n2.symm]; exact h3)]
  · rw [upd_other _ _ hki]
    have nn : ∀ x y, x < 3 → y < 3 → (⟨g, i * 3 + x, none⟩ : Addr) ≠ ⟨g, k * 3 + y, none⟩ := fun x y hx hy e => by injection e with _ e _; omega
    have n0 := fun y hy => nn 0 y (by omega) hy
    simp only [Nat.add_zero] at n0
    have m0 := fun x hx => nn x 0 hx (by omega)
    simp only [Nat.add_zero] at m0
    have q0 : (⟨g, i * 3, none⟩ : Addr) ≠ ⟨g, k * 3, none⟩ := fun e => by injection e with _ e _; omega
    refine ⟨?_, ?_, ?_⟩
    · rw [World.cell?_setCell_other _ _ _ _ (m0 2 (by omega)), World.cell?_setCell_other _ _ _ _ (m0 1 (by omega)), World.cell?_setCell_other _ _ _ _ q0]; exact h1
    · rw [World.cell?_setCell_other _ _ _ _ (nn 2 1 (by omega) (by omega)), World.cell?_setCell_other _ _ _ _ (nn 1 1 (by omega) (by omega)), World.cell?_setCell_other _ _ _ _ (n0 1 (by omega))]; exact h2
    · rw [World.cell?_setCell_other _ _ _ _ (nn 2 2 (by omega) (by omega)), World.cell?_setCell_other _ _ _ _ (nn 1 2 (by omega) (by omega)), World.cell?_setCell_other _ _ _ _ (n0 2 (by omega))]; exact h3
end Go.Proofs.Ybulkcnwo
