import Derived.Test.YbulkcnwoJoin
namespace Go.Proofs.Ybulkcnwo
open Go.RowKit
theorem new_block {w : World} {o : Obj} : (w.alloc o).heap[w.heap.size]? = some o := by
  show (w.heap.push _)[w.heap.size]? = _
  simp
theorem blk3 {w : World} {b : Nat} {x y z : Value} {t : TypeId} (h : w.heap[b]? = some (.cells #[x, y, z] t (0, 0))) :
    w.cell? ⟨b, 0, none⟩ = some x ∧ w.cell? ⟨b, 1, none⟩ = some y ∧ w.cell? ⟨b, 2, none⟩ = some z ∧ w.frozen? ⟨b, 0, none⟩ = false ∧ w.frozen? ⟨b, 1, none⟩ = false ∧ w.frozen? ⟨b, 2, none⟩ = false := by
  refine ⟨?_, ?_, ?_, ?_, ?_, ?_⟩ <;> simp only [World.cell?, World.frozen?, h] <;> simp
theorem below_heap {B : Nat} {w w' : World} (h : Below B w w') {k : Nat} (hk : k < B) : w'.heap[k]? = w.heap[k]? := h.block k hk
/-- What a line notes of a span. -/
structure Sp where
  lead : Option Nat
  first : Option Nat
  last : Option Nat
def Sp.cells (bs : Nat → Nat) (s : Sp) : List Value := [.pointer (pp bs s.lead), .pointer (pp bs s.first), .pointer (pp bs s.last)]
def joinS (rf : Bool) (rs : Nat → R) (s t : Sp) : Sp := ⟨earl rf rs s.lead t.lead, earl rf rs s.first t.first, late rf rs s.last t.last⟩
def Sp.In (n : Nat) (s : Sp) : Prop := Ybulkcnwo.In n s.lead ∧ Ybulkcnwo.In n s.first ∧ Ybulkcnwo.In n s.last
theorem Sp.In.join {n : Nat} {rf : Bool} {rs : Nat → R} {s t : Sp} (hs : s.In n) (ht : t.In n) : (joinS rf rs s t).In n := ⟨hs.1.earl ht.1, hs.2.1.earl ht.2.1, hs.2.2.late ht.2.2⟩
set_option maxHeartbeats 1000000 in
theorem join_any (w : World) (n : Nat) (bs : Nat → Nat) (rs : Nat → R) (s t : Sp) (rf : Bool) (hr : Routes w n bs rs) (hs : s.In n) (ht : t.In n) :
    Calls Yba.prog 18 #[.agg #[.pointer (pp bs s.lead), .pointer (pp bs s.first), .pointer (pp bs s.last)], .agg #[.pointer (pp bs t.lead), .pointer (pp bs t.first), .pointer (pp bs t.last)], .bool rf] w fun e w' =>
      e = .returned (.agg #[.pointer (pp bs (joinS rf rs s t).lead), .pointer (pp bs (joinS rf rs s t).first), .pointer (pp bs (joinS rf rs s t).last)]) ∧ Below w.heap.size w w' := by
  obtain ⟨l1, f1, t1⟩ := s
  obtain ⟨l2, f2, t2⟩ := t
  obtain ⟨hs1, hs2, hs3⟩ := hs
  obtain ⟨ht1, ht2, ht3⟩ := ht
  simp only [joinS] at *
  have HR := hide hr
  clear hr
  go_enter Yba.func18, Yba.ntmps18
  go_wp2_with fail
  generalize hW : World.alloc _ _ = W3
  have hB3 : Below w.heap.size w W3 := by rw [← hW]; exact (((Below.refl _ _).alloc (Nat.le_refl _) _).alloc (by simp) _).alloc (by simp; omega) _
  have hz3 : W3.heap.size = w.heap.size + 3 := by rw [← hW]; simp
  have k0 : W3.cell? ⟨w.heap.size, 0, none⟩ = some (.pointer (pp bs l1)) := by rw [← hW]; simp [go_sem]
  have k1 : W3.cell? ⟨w.heap.size, 1, none⟩ = some (.pointer (pp bs f1)) := by rw [← hW]; simp [go_sem]
  have k2 : W3.cell? ⟨w.heap.size, 2, none⟩ = some (.pointer (pp bs t1)) := by rw [← hW]; simp [go_sem]
  have m0 : W3.cell? ⟨w.heap.size + 1, 0, none⟩ = some (.pointer (pp bs l2)) := by rw [← hW]; simp [go_sem]
  have m1 : W3.cell? ⟨w.heap.size + 1, 1, none⟩ = some (.pointer (pp bs f2)) := by rw [← hW]; simp [go_sem]
  have m2 : W3.cell? ⟨w.heap.size + 1, 2, none⟩ = some (.pointer (pp bs t2)) := by rw [← hW]; simp [go_sem]
  have c0 : W3.heap[w.heap.size + 1 + 1]? = some (.cells #[.pointer none, .pointer none, .pointer none] 67 (0, 0)) := by
    rw [← hW]
    have := @new_block ((w.alloc (.cells #[.pointer (pp bs l1), .pointer (pp bs f1), .pointer (pp bs t1)] 67)).alloc (.cells #[.pointer (pp bs l2), .pointer (pp bs f2), .pointer (pp bs t2)] 67)) (.cells #[.pointer none, .pointer none, .pointer none] 67)
    rwa [World.size_alloc, World.size_alloc] at this
  clear hW
  have hk : ∀ w' : World, Below (w.heap.size + 1 + 1) W3 w' → w'.cell? ⟨w.heap.size, 0, none⟩ = some (.pointer (pp bs l1)) ∧ w'.cell? ⟨w.heap.size, 1, none⟩ = some (.pointer (pp bs f1)) ∧ w'.cell? ⟨w.heap.size, 2, none⟩ = some (.pointer (pp bs t1)) ∧ w'.cell? ⟨w.heap.size + 1, 0, none⟩ = some (.pointer (pp bs l2)) ∧ w'.cell? ⟨w.heap.size + 1, 1, none⟩ = some (.pointer (pp bs f2)) ∧ w'.cell? ⟨w.heap.size + 1, 2, none⟩ = some (.pointer (pp bs t2)) := fun w' h =>
    ⟨(h.cell (p := ⟨w.heap.size, 0, none⟩) (by show w.heap.size < _; omega)).trans k0, (h.cell (p := ⟨w.heap.size, 1, none⟩) (by show w.heap.size < _; omega)).trans k1, (h.cell (p := ⟨w.heap.size, 2, none⟩) (by show w.heap.size < _; omega)).trans k2, (h.cell (p := ⟨w.heap.size + 1, 0, none⟩) (by show w.heap.size + 1 < _; omega)).trans m0, (h.cell (p := ⟨w.heap.size + 1, 1, none⟩) (by show w.heap.size + 1 < _; omega)).trans m1, (h.cell (p := ⟨w.heap.size + 1, 2, none⟩) (by show w.heap.size + 1 < _; omega)).trans m2⟩
  clear k0 k1 k2 m0 m1 m2
  have hA0 : Below W3.heap.size W3 W3.drew := (Below.refl _ _).drew
  have HR0 : Hid (Routes W3.drew n bs rs) := HR.out.later hB3.drew
  go_region_held3 (fun w' => Below (w.heap.size + 1 + 1) W3 w')
    (first | exact hS3 | exact hA3.mono (by omega) | exact hA2.mono (by omega) | exact hA1.mono (by omega) | exact hA0.mono (by omega))
    (first | (go_at_call 24; have HRx := HR1.out; clear HRx; refine (earlier_any _ n bs rs f1 f2 rf HR1.out hs2 ht2).mono ?_; rintro e w6 ⟨rfl, hb6⟩; have hA2 : Below W3.heap.size W3 w6 := hA1.trans (hb6.mono hA1.size); have HR2 : Hid (Routes w6 n bs rs) := HR1.out.later hb6; clear hb6) | (go_at_call 24; refine (earlier_any _ n bs rs l1 l2 rf HR0.out hs1 ht1).mono ?_; rintro e w5 ⟨rfl, hb5⟩; have hA1 : Below W3.heap.size W3 w5 := hA0.trans (hb5.mono hA0.size); have HR1 : Hid (Routes w5 n bs rs) := HR0.out.later hb5; clear hb5) | (go_at_call 25; refine (later_any _ n bs rs t1 t2 rf HR2.out hs3 ht3).mono ?_; rintro e w7 ⟨rfl, hb7⟩; have hA3 : Below W3.heap.size W3 w7 := hA2.trans (hb7.mono hA2.size); clear hb7; have c1 := (hA3.block (w.heap.size + 1 + 1) (by omega)).trans c0; obtain ⟨z0, z1, z2, z3, z4, z5⟩ := blk3 c1; clear c1; have hS3 := (((hA3.mono (show w.heap.size + 1 + 1 ≤ W3.heap.size by omega)).setCell (p := ⟨w.heap.size + 1 + 1, 0, none⟩) (Nat.le_refl _) (.pointer (pp bs (earl rf rs l1 l2)))).setCell (p := ⟨w.heap.size + 1 + 1, 1, none⟩) (Nat.le_refl _) (.pointer (pp bs (earl rf rs f1 f2)))).setCell (p := ⟨w.heap.size + 1 + 1, 2, none⟩) (Nat.le_refl _) (.pointer (pp bs (late rf rs t1 t2)))))
  have hSw : Below w.heap.size w _ := hB3.trans (hS3.mono (by omega))
  go_wp2_with fail
  exact bodyPost_ret (v := .agg #[.pointer (pp bs (earl rf rs l1 l2)), .pointer (pp bs (earl rf rs f1 f2)), .pointer (pp bs (late rf rs t1 t2))]) (by simp [results, Yba.results18, go_sem, z0, z1, z2]) rfl ⟨rfl, hSw⟩
end Go.Proofs.Ybulkcnwo
