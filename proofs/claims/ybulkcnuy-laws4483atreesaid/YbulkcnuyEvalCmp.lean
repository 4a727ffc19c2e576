import Derived.Test.YbulkcnuyDiff
import Derived.Deep.RegionHeld3
namespace Go.Proofs.Ybulkcnuy
open Go.RowKit

/-- Two sets of outcomes meet. -/
def meets (a b : Int) : Bool := bits BinOp.and IntKind.u8 a b != 0

/-- What holds of the world all the way through the evaluation of a comparison: the formula at fb, the difference at db, the cut's box. -/
def InCmp (fb db cb cl cc bx : Nat) (mask : Int) (ts : List (Int × Bool × Bool)) (v : Int) (w : World) : Prop :=
  fb < w.heap.size ∧ bx < w.heap.size ∧ w.cell? ⟨fb, 4, none⟩ = some (.pointer (some ⟨db, 0, none⟩)) ∧ w.cell? ⟨fb, 5, none⟩ = some (.int .u8 mask) ∧ w.cell? ⟨bx, 0, none⟩ = some (.slice (some ⟨cb, 0, none⟩) cl cc) ∧ DiffAt w db cb cl ts v
theorem InCmp.later {fb db cb cl cc bx : Nat} {mask : Int} {ts : List (Int × Bool × Bool)} {v : Int} {w w' : World} (h : InCmp fb db cb cl cc bx mask ts v w) (hb : Below w.heap.size w w') : InCmp fb db cb cl cc bx mask ts v w' := by
  obtain ⟨h1, h2, h3, h4, h5, h6⟩ := h
  have hs := hb.size
  exact ⟨by omega, by omega, (hb.cell (by exact h1)).trans h3, (hb.cell (by exact h1)).trans h4, (hb.cell (by exact h2)).trans h5, h6.later hb⟩

set_option maxHeartbeats 1000000 in
theorem eval_cmp (ts : List (Int × Bool × Bool)) (v mask : Int) (fb db cb cl cc : Nat) (w : World)
    (hfb : fb < w.heap.size) (f0 : w.cell? ⟨fb, 0, none⟩ = some (.int .i64 4)) (f4 : w.cell? ⟨fb, 4, none⟩ = some (.pointer (some ⟨db, 0, none⟩)))
    (f5 : w.cell? ⟨fb, 5, none⟩ = some (.int .u8 mask)) (hd : DiffAt w db cb cl ts v) :
    Calls Yba.prog 9 #[.pointer (some ⟨fb, 0, none⟩), .slice (some ⟨cb, 0, none⟩) cl cc] w fun e w' =>
      e = .returned (.bool (meets (dOut ts v) mask)) ∧ Below w.heap.size w w' := by
  have hI : InCmp fb db cb cl cc w.heap.size mask ts v (w.alloc (.cells #[.slice (some ⟨cb, 0, none⟩) cl cc] 24)).drew :=
    ⟨by simp; omega, by simp, by simp [go_sem, hfb, f4], by simp [go_sem, hfb, f5], by simp [go_sem], hd.later ((Below.refl _ _).alloc (Nat.le_refl _) _).drew⟩
  have HB : Hid (Below w.heap.size w (w.alloc (.cells #[.slice (some ⟨cb, 0, none⟩) cl cc] 24)).drew) := ((Below.refl _ _).alloc (Nat.le_refl _) _).drew
  go_enter Yba.func9, Yba.ntmps9
  go_wp2_with fail
  go_region_held3 (fun w' => w'.cell? ⟨fb, 4, none⟩ = some (.pointer (some ⟨db, 0, none⟩)) ∧ w'.cell? ⟨fb, 5, none⟩ = some (.int .u8 mask) ∧ w'.cell? ⟨w.heap.size, 0, none⟩ = some (.slice (some ⟨cb, 0, none⟩) cl cc) ∧ InCmp fb db cb cl cc w.heap.size mask ts v w' ∧ Below w.heap.size w w')
    (first | exact ⟨hI.2.2.1, hI.2.2.2.1, hI.2.2.2.2.1, hI, HB⟩ | exact ⟨hI1.2.2.1, hI1.2.2.2.1, hI1.2.2.2.2.1, hI1, HB1⟩)
    (first | (go_at_call 11; refine (dout_at hI.2.2.2.2.2 _).mono ?_; rintro e w1 ⟨rfl, hb1⟩; have hI1 := hI.later hb1; have HB1 := HB.out.trans (hb1.mono (by simp)); clear hb1))
  go_wp2_with fail
  go_ret
  exact ⟨rfl, HB1⟩
end Go.Proofs.Ybulkcnuy
