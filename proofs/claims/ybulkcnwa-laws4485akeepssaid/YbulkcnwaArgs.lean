import Derived.Test.YbulkcnwaEnt
import Derived.ProofKit
import Derived.OpenShut
import Derived.Deep.Slices
import Derived.SliceStrings
namespace Go.Proofs.Ybulkcnwa
open Go.ChangeShapes Go.WideShapes Go.ChangeAt Go.RowKit Go.Deep
set_option linter.unusedVariables false
theorem own : ownKnob Yba.prog.godebug = none := by kernel_rfl
theorem laidOut : laidOutB Yba.prog = true := by kernel_rfl
theorem cells34 : Yba.prog.cellsOf 34 = 4 := by kernel_rfl
theorem cells5 : Yba.prog.cellsOf 5 = 1 := by kernel_rfl
theorem cells3 : Yba.prog.cellsOf 3 = 1 := by kernel_rfl
theorem cells32 : Yba.prog.cellsOf 32 = 1 := by kernel_rfl
theorem cells9 : Yba.prog.cellsOf 9 = 1 := by kernel_rfl
section
variable {H : Type} {enc : TypeId × Value → H} {W : World} {spare : Nat → Bool} {held : Bool}
theorem get_some {α : Type} {xs : List α} {n i : Nat} (h : xs.length = n) (hi : i < n) : ∃ y, xs[i]? = some y := ⟨_, List.getElem?_eq_getElem (by omega)⟩
/-- A group as it is read. -/
theorem texts_of {fuel : Nat} {cs : List Value} {x : DataW H × List MemPlace} (hlc : ∀ b, spare b = true)
    (hf : DataW.trod enc Yba.prog W 0 spare held fuel 32 cs = some x) : ∃ ga gn gc, cs = [.slice ga gn gc] ∧ gn ≤ maxLen ∧ Texts W ga gn := by
  rcases open_strings Yba.underlying32 Yba.underlying9 cells9 hf with ⟨rfl, _⟩ | ⟨a, len, cap, ss, rfl, _, hl, hm, hss, _, hc, _⟩
  · exact ⟨none, 0, 0, rfl, Nat.zero_le _, fun j hj => by omega⟩
  · refine ⟨some a, len, cap, rfl, by omega, ?_⟩
    rw [hlc, if_pos rfl] at hss
    intro j hj
    obtain ⟨b, off, spot⟩ := a
    have g := hc j (by omega)
    have hspot : spot = none := by simpa [Addr.add] using World.cell?_spot (hc 0 (by omega))
    subst hspot
    rw [add_plain] at g
    exact ⟨b, off, _, rfl, World.block_lt_of_cell? W _ g, g⟩
/-- The entries as they are read. -/
theorem entries_of {a0 : Option Addr} {len0 cap0 fuel : Nat} {x : DataW H × List MemPlace} (hlc : ∀ b, spare b = true)
    (hf : DataW.trod enc Yba.prog W 0 spare held fuel 22 [.slice a0 len0 cap0] = some x) : ∀ k, k < len0 → ∃ e, EntryAt W a0 k e := by
  rcases open_slice Yba.underlying22 hf with ⟨hcs, _⟩ | ⟨a, len, cap, m, n, D, Pl, hcs, _, hl, hm, hmm, _, hx⟩
  · simp only [List.cons.injEq, Value.slice.injEq, and_true] at hcs
    obtain ⟨rfl, rfl, rfl⟩ := hcs
    intro k hk; omega
  · simp only [List.cons.injEq, Value.slice.injEq, and_true] at hcs
    obtain ⟨rfl, rfl, rfl⟩ := hcs
    rw [hlc, if_pos rfl] at hmm
    subst hmm
    rw [cells34] at hx
    intro k hk
    obtain ⟨b, off, spot⟩ := a
    have hspot : spot = none := by
      obtain ⟨cs0, hc0, ht0⟩ := hx 0 (by omega)
      obtain ⟨_, hlen0, hcell0⟩ := World.cells?_some hc0
      have g := hcell0 0 (by omega)
      rw [List.getElem?_eq_getElem (by omega)] at g
      simpa [Addr.add] using World.cell?_spot g
    subst hspot
    obtain ⟨cs, hc, ht⟩ := hx k (by omega)
    obtain ⟨_, hlen, hcell⟩ := World.cells?_some hc
    have hcell' : ∀ i, i < 4 → W.cell? ⟨b, off + k * 4 + i, none⟩ = cs[i]? := by
      intro i hi
      have h := hcell i hi
      rwa [add_plain, add_plain] at h
    obtain ⟨xs, n', _, _, _, hxl, hfld⟩ := DataW.trod_struct Yba.underlying34 ht
    have hxl4 : xs.length = 4 := hxl
    obtain ⟨y0, e0⟩ := get_some hxl4 (show 0 < 4 by omega)
    obtain ⟨y1, e1⟩ := get_some hxl4 (show 1 < 4 by omega)
    obtain ⟨y2, e2⟩ := get_some hxl4 (show 2 < 4 by omega)
    obtain ⟨y3, e3⟩ := get_some hxl4 (show 3 < 4 by omega)
    obtain ⟨lv, c0, _, w0⟩ := DataW.trod_int Yba.underlying5 ((hfld 0 _ rfl).trans e0)
    obtain ⟨ver, c1, _, w1⟩ := DataW.trod_int Yba.underlying3 ((hfld 1 _ rfl).trans e1)
    obtain ⟨more, c2, _, w2⟩ := DataW.trod_int Yba.underlying3 ((hfld 2 _ rfl).trans e2)
    obtain ⟨ga, gn, gc, c3, hgn, hgt⟩ := texts_of hlc ((hfld 3 _ rfl).trans e3)
    replace c0 : (cs.drop 0).take (Yba.prog.cellsOf 5) = _ := c0
    replace c1 : (cs.drop 1).take (Yba.prog.cellsOf 3) = _ := c1
    replace c2 : (cs.drop 2).take (Yba.prog.cellsOf 3) = _ := c2
    replace c3 : (cs.drop 3).take (Yba.prog.cellsOf 32) = _ := c3
    rw [cells5] at c0
    rw [cells3] at c1 c2
    rw [cells32] at c3
    have g0 := (hcell' 0 (by omega)).trans (cell_of_cut c0)
    have g1 := (hcell' 1 (by omega)).trans (cell_of_cut c1)
    have g2 := (hcell' 2 (by omega)).trans (cell_of_cut c2)
    have g3 := (hcell' 3 (by omega)).trans (cell_of_cut c3)
    obtain ⟨o0, o1⟩ := bounds_u8 w0
    exact ⟨⟨lv % 8, ver, more, ga, gn, gc⟩, b, off, lv, rfl, World.block_lt_of_cell? W _ g0, o0, o1, rfl, hgn, hgt, g0, g1, g2, g3⟩
end
theorem entries_list {W : World} {a0 : Option Addr} {n : Nat} (h : ∀ k, k < n → ∃ e, EntryAt W a0 k e) : ∃ es : List Ent, es.length = n ∧ ∀ k (hk : k < es.length), EntryAt W a0 k es[k] := by
  induction n with
  | zero => exact ⟨[], rfl, fun k hk => by simp at hk⟩
  | succ n ih =>
    obtain ⟨es, hl, hes⟩ := ih fun k hk => h k (by omega)
    obtain ⟨e, he⟩ := h n (by omega)
    refine ⟨es ++ [e], by simp [hl], fun k hk => ?_⟩
    by_cases hkn : k < es.length
    · rw [List.getElem_append_left hkn]; exact hes k hkn
    · have hk' : k = es.length := by simp at hk; omega
      subst hk'
      rw [List.getElem_append_right (Nat.le_refl _)]
      simp only [Nat.sub_self, List.getElem_cons_zero]
      rw [hl]; exact he
end Go.Proofs.Ybulkcnwa
