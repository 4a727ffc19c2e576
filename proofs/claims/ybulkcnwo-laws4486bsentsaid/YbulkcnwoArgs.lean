import Derived.Test.YbulkcnwoLawA
import Derived.ProofKit
import Derived.OpenShut
import Derived.Deep.Slices
import Derived.SliceStrings
namespace Go.Proofs.Ybulkcnwo
open Go.ChangeShapes Go.WideShapes Go.ChangeAt Go.RowKit Go.Deep
set_option linter.unusedVariables false
theorem ownB : ownKnob Yba.prog.godebug = none := by kernel_rfl
theorem laidOut : laidOutB Yba.prog = true := by kernel_rfl
theorem cells36 : Yba.prog.cellsOf 36 = 7 := by kernel_rfl
theorem cells58 : Yba.prog.cellsOf 58 = 3 := by kernel_rfl
theorem cells5 : Yba.prog.cellsOf 5 = 1 := by kernel_rfl
theorem cells4 : Yba.prog.cellsOf 4 = 1 := by kernel_rfl
theorem cells34 : Yba.prog.cellsOf 34 = 1 := by kernel_rfl
theorem cells56 : Yba.prog.cellsOf 56 = 1 := by kernel_rfl
section
variable {H : Type} {enc : TypeId × Value → H} {W : World} {spare : Nat → Bool} {held : Bool}
theorem get_some {α : Type} {xs : List α} {n i : Nat} (h : xs.length = n) (hi : i < n) : ∃ y, xs[i]? = some y := ⟨_, List.getElem?_eq_getElem (by omega)⟩
/-- The specs as they are read. -/
theorem specs_of {a0 : Option Addr} {len0 cap0 fuel : Nat} {x : DataW H × List MemPlace} (hlc : ∀ b, spare b = true)
    (hf : DataW.trod enc Yba.prog W 0 spare held fuel 22 [.slice a0 len0 cap0] = some x) : ∀ k, k < len0 → ∃ s, SpecAt W a0 k s := by
  rcases open_slice Yba.underlying22 hf with ⟨hcs, _⟩ | ⟨a, len, cap, m, n, D, Pl, hcs, _, hl, hm, hmm, _, hx⟩
  · simp only [List.cons.injEq, Value.slice.injEq, and_true] at hcs
    obtain ⟨rfl, rfl, rfl⟩ := hcs
    intro k hk; omega
  · simp only [List.cons.injEq, Value.slice.injEq, and_true] at hcs
    obtain ⟨rfl, rfl, rfl⟩ := hcs
    rw [hlc, if_pos rfl] at hmm
    subst hmm
    rw [cells36] at hx
    intro k hk
    obtain ⟨b, off, spot⟩ := a
    have hspot : spot = none := by
      obtain ⟨cs0, hc0, ht0⟩ := hx 0 (by omega)
      obtain ⟨_, hlen0, hcell0⟩ := World.cells?_some hc0
      have g := hcell0 0 (by omega)
      rw [List.getElem?_eq_getElem (by omega)] at g
      simpa [Addr.add] using World.cell?_spot g
    subst hspot
    obtain ⟨cs, hc, ht⟩ := hx k (by omega)
    obtain ⟨_, hlen, hcell⟩ := World.cells?_some hc
    have hcell' : ∀ i, i < 7 → W.cell? ⟨b, off + k * 7 + i, none⟩ = cs[i]? := by
      intro i hi
      have h := hcell i hi
      rwa [add_plain, add_plain] at h
    obtain ⟨xs, n', _, _, _, hxl, hfld⟩ := DataW.trod_struct Yba.underlying36 ht
    have hxl7 : xs.length = 7 := hxl
    obtain ⟨y0, e0⟩ := get_some hxl7 (show 0 < 7 by omega)
    obtain ⟨y1, e1⟩ := get_some hxl7 (show 1 < 7 by omega)
    obtain ⟨y2, e2⟩ := get_some hxl7 (show 2 < 7 by omega)
    obtain ⟨y3, e3⟩ := get_some hxl7 (show 3 < 7 by omega)
    obtain ⟨y4, e4⟩ := get_some hxl7 (show 4 < 7 by omega)
    obtain ⟨y5, e5⟩ := get_some hxl7 (show 5 < 7 by omega)
    obtain ⟨y6, e6⟩ := get_some hxl7 (show 6 < 7 by omega)
    obtain ⟨peer, c0, _, w0⟩ := DataW.trod_int Yba.underlying5 ((hfld 0 _ rfl).trans e0)
    obtain ⟨parked, c1, _⟩ := DataW.trod_bool Yba.underlying4 ((hfld 1 _ rfl).trans e1)
    obtain ⟨reach, c2, _, w2⟩ := DataW.trod_int Yba.underlying34 ((hfld 2 _ rfl).trans e2)
    obtain ⟨best, c3, _, w3⟩ := DataW.trod_int Yba.underlying34 ((hfld 3 _ rfl).trans e3)
    obtain ⟨hasb, c4, _⟩ := DataW.trod_bool Yba.underlying4 ((hfld 4 _ rfl).trans e4)
    obtain ⟨gen, c5, _, w5⟩ := DataW.trod_int Yba.underlying5 ((hfld 5 _ rfl).trans e5)
    obtain ⟨root, c6, _, w6⟩ := DataW.trod_int Yba.underlying34 ((hfld 6 _ rfl).trans e6)
    replace c0 : (cs.drop 0).take (Yba.prog.cellsOf 5) = _ := c0
    replace c1 : (cs.drop 1).take (Yba.prog.cellsOf 4) = _ := c1
    replace c2 : (cs.drop 2).take (Yba.prog.cellsOf 34) = _ := c2
    replace c3 : (cs.drop 3).take (Yba.prog.cellsOf 34) = _ := c3
    replace c4 : (cs.drop 4).take (Yba.prog.cellsOf 4) = _ := c4
    replace c5 : (cs.drop 5).take (Yba.prog.cellsOf 5) = _ := c5
    replace c6 : (cs.drop 6).take (Yba.prog.cellsOf 34) = _ := c6
    rw [cells5] at c0 c5
    rw [cells4] at c1 c4
    rw [cells34] at c2 c3 c6
    have g0 := (hcell' 0 (by omega)).trans (cell_of_cut c0)
    have g1 := (hcell' 1 (by omega)).trans (cell_of_cut c1)
    have g2 := (hcell' 2 (by omega)).trans (cell_of_cut c2)
    have g3 := (hcell' 3 (by omega)).trans (cell_of_cut c3)
    have g4 := (hcell' 4 (by omega)).trans (cell_of_cut c4)
    have g5 := (hcell' 5 (by omega)).trans (cell_of_cut c5)
    have g6 := (hcell' 6 (by omega)).trans (cell_of_cut c6)
    obtain ⟨o0, p0⟩ := bounds_u8 w0
    obtain ⟨o2, p2⟩ := bounds_i8 w2
    obtain ⟨o3, p3⟩ := bounds_i8 w3
    obtain ⟨o5, p5⟩ := bounds_u8 w5
    obtain ⟨o6, p6⟩ := bounds_i8 w6
    exact ⟨⟨peer, parked, reach, best, hasb, gen, root⟩, b, off, rfl, World.block_lt_of_cell? W _ g0, o0, p0, o2, p2, o3, p3, o5, p5, o6, p6, g0, g1, g2, g3, g4, g5, g6⟩
/-- The moves as they are read. -/
theorem moves_of {a0 : Option Addr} {len0 cap0 fuel : Nat} {x : DataW H × List MemPlace} (hlc : ∀ b, spare b = true)
    (hf : DataW.trod enc Yba.prog W 0 spare held fuel 23 [.slice a0 len0 cap0] = some x) : ∀ k, k < len0 → ∃ s, MoveAt W a0 k s := by
  rcases open_slice Yba.underlying23 hf with ⟨hcs, _⟩ | ⟨a, len, cap, m, n, D, Pl, hcs, _, hl, hm, hmm, _, hx⟩
  · simp only [List.cons.injEq, Value.slice.injEq, and_true] at hcs
    obtain ⟨rfl, rfl, rfl⟩ := hcs
    intro k hk; omega
  · simp only [List.cons.injEq, Value.slice.injEq, and_true] at hcs
    obtain ⟨rfl, rfl, rfl⟩ := hcs
    rw [hlc, if_pos rfl] at hmm
    subst hmm
    rw [cells58] at hx
    intro k hk
    obtain ⟨b, off, spot⟩ := a
    have hspot : spot = none := by
      obtain ⟨cs0, hc0, ht0⟩ := hx 0 (by omega)
      obtain ⟨_, hlen0, hcell0⟩ := World.cells?_some hc0
      have g := hcell0 0 (by omega)
      rw [List.getElem?_eq_getElem (by omega)] at g
      simpa [Addr.add] using World.cell?_spot g
    subst hspot
    obtain ⟨cs, hc, ht⟩ := hx k (by omega)
    obtain ⟨_, hlen, hcell⟩ := World.cells?_some hc
    have hcell' : ∀ i, i < 3 → W.cell? ⟨b, off + k * 3 + i, none⟩ = cs[i]? := by
      intro i hi
      have h := hcell i hi
      rwa [add_plain, add_plain] at h
    obtain ⟨xs, n', _, _, _, hxl, hfld⟩ := DataW.trod_struct Yba.underlying58 ht
    have hxl3 : xs.length = 3 := hxl
    obtain ⟨y0, e0⟩ := get_some hxl3 (show 0 < 3 by omega)
    obtain ⟨y1, e1⟩ := get_some hxl3 (show 1 < 3 by omega)
    obtain ⟨y2, e2⟩ := get_some hxl3 (show 2 < 3 by omega)
    obtain ⟨pick, c0, _, w0⟩ := DataW.trod_int Yba.underlying56 ((hfld 0 _ rfl).trans e0)
    obtain ⟨peer, c1, _, w1⟩ := DataW.trod_int Yba.underlying5 ((hfld 1 _ rfl).trans e1)
    obtain ⟨reach, c2, _, w2⟩ := DataW.trod_int Yba.underlying34 ((hfld 2 _ rfl).trans e2)
    replace c0 : (cs.drop 0).take (Yba.prog.cellsOf 56) = _ := c0
    replace c1 : (cs.drop 1).take (Yba.prog.cellsOf 5) = _ := c1
    replace c2 : (cs.drop 2).take (Yba.prog.cellsOf 34) = _ := c2
    rw [cells56] at c0
    rw [cells5] at c1
    rw [cells34] at c2
    have g0 := (hcell' 0 (by omega)).trans (cell_of_cut c0)
    have g1 := (hcell' 1 (by omega)).trans (cell_of_cut c1)
    have g2 := (hcell' 2 (by omega)).trans (cell_of_cut c2)
    obtain ⟨o0, p0⟩ := bounds_u16 w0
    obtain ⟨o1, p1⟩ := bounds_u8 w1
    obtain ⟨o2, p2⟩ := bounds_i8 w2
    exact ⟨⟨pick, peer, reach⟩, b, off, rfl, World.block_lt_of_cell? W _ g0, o0, p0, o1, p1, o2, p2, g0, g1, g2⟩
end
end Go.Proofs.Ybulkcnwo
