import Derived.Test.YbulkcnuyTree
import Derived.ProofKit
import Derived.OpenShut
import Derived.ShutString
import Derived.Deep.Slices
namespace Go.Proofs.Ybulkcnuy.lawS4483ATree
open Go.ChangeShapes Go.WideShapes Go.ChangeAt Go.RowKit Go.Deep
set_option linter.unusedVariables false

theorem own : ownKnob Yba.prog.godebug = none := by kernel_rfl
theorem laidOut : laidOutB Yba.prog = true := by kernel_rfl
theorem cells27 : Yba.prog.cellsOf 27 = 6 := by kernel_rfl
theorem cells5 : Yba.prog.cellsOf 5 = 1 := by kernel_rfl
theorem cells21 : Yba.prog.cellsOf 21 = 1 := by kernel_rfl
theorem cells23 : Yba.prog.cellsOf 23 = 3 := by kernel_rfl

section
variable {H : Type} {enc : TypeId × Value → H} {W : World} {spare : Nat → Bool} {held : Bool}
/-- A list with six members has each of them. -/
theorem get_some {α : Type} {xs : List α} {n i : Nat} (h : xs.length = n) (hi : i < n) : ∃ y, xs[i]? = some y := ⟨_, List.getElem?_eq_getElem (by omega)⟩
/-- The steps as they are read. -/
theorem steps_of {a0 : Option Addr} {len0 cap0 fuel : Nat} {x : DataW H × List MemPlace} (hlc : ∀ b, spare b = true)
    (hf : DataW.trod enc Yba.prog W 0 spare held fuel 22 [.slice a0 len0 cap0] = some x) : ∀ k, k < len0 → StepAt W a0 k := by
  rcases open_slice Yba.underlying22 hf with ⟨hcs, _⟩ | ⟨a, len, cap, m, n, D, Pl, hcs, _, hl, hm, hmm, _, hx⟩
  · simp only [List.cons.injEq, Value.slice.injEq, and_true] at hcs
    obtain ⟨rfl, rfl, rfl⟩ := hcs
    intro k hk; omega
  · simp only [List.cons.injEq, Value.slice.injEq, and_true] at hcs
    obtain ⟨rfl, rfl, rfl⟩ := hcs
    rw [hlc, if_pos rfl] at hmm
    subst hmm
    rw [cells27] at hx
    intro k hk
    obtain ⟨b, off, spot⟩ := a
    have hspot : spot = none := by
      obtain ⟨cs0, hc0, ht0⟩ := hx 0 (by omega)
      obtain ⟨_, hlen0, hcell0⟩ := World.cells?_some hc0
      have g := hcell0 0 (by omega)
      rw [List.getElem?_eq_getElem (by omega)] at g
      simpa [Addr.add] using World.cell?_spot g
    subst hspot
    obtain ⟨cs, hc, ht⟩ := hx k (by omega)
    obtain ⟨_, hlen, hcell⟩ := World.cells?_some hc
    have hcell' : ∀ i, i < 6 → W.cell? ⟨b, off + k * 6 + i, none⟩ = cs[i]? := by
      intro i hi
      have h := hcell i hi
      rwa [add_plain, add_plain] at h
    obtain ⟨xs, n', _, _, _, hxl, hfld⟩ := DataW.trod_struct Yba.underlying27 ht
    have hxl6 : xs.length = 6 := hxl
    obtain ⟨y0, e0⟩ := get_some hxl6 (show 0 < 6 by omega)
    obtain ⟨y1, e1⟩ := get_some hxl6 (show 1 < 6 by omega)
    obtain ⟨y2, e2⟩ := get_some hxl6 (show 2 < 6 by omega)
    obtain ⟨y3, e3⟩ := get_some hxl6 (show 3 < 6 by omega)
    obtain ⟨y4, e4⟩ := get_some hxl6 (show 4 < 6 by omega)
    obtain ⟨y5, e5⟩ := get_some hxl6 (show 5 < 6 by omega)
    obtain ⟨o, c0, _, w0⟩ := DataW.trod_int Yba.underlying5 ((hfld 0 _ rfl).trans e0)
    obtain ⟨x', c1, _, w1⟩ := DataW.trod_int Yba.underlying5 ((hfld 1 _ rfl).trans e1)
    obtain ⟨b', c2, _, w2⟩ := DataW.trod_int Yba.underlying5 ((hfld 2 _ rfl).trans e2)
    obtain ⟨m', c3, _, w3⟩ := DataW.trod_int Yba.underlying5 ((hfld 3 _ rfl).trans e3)
    obtain ⟨d, c4, _, w4⟩ := DataW.trod_int Yba.underlying5 ((hfld 4 _ rfl).trans e4)
    obtain ⟨nn, c5, _, w5⟩ := DataW.trod_int Yba.underlying21 ((hfld 5 _ rfl).trans e5)
    replace c0 : (cs.drop 0).take (Yba.prog.cellsOf 5) = _ := c0
    replace c1 : (cs.drop 1).take (Yba.prog.cellsOf 5) = _ := c1
    replace c2 : (cs.drop 2).take (Yba.prog.cellsOf 5) = _ := c2
    replace c3 : (cs.drop 3).take (Yba.prog.cellsOf 5) = _ := c3
    replace c4 : (cs.drop 4).take (Yba.prog.cellsOf 5) = _ := c4
    replace c5 : (cs.drop 5).take (Yba.prog.cellsOf 21) = _ := c5
    rw [cells5] at c0 c1 c2 c3 c4
    rw [cells21] at c5
    have g0 := (hcell' 0 (by omega)).trans (cell_of_cut c0)
    have g1 := (hcell' 1 (by omega)).trans (cell_of_cut c1)
    have g2 := (hcell' 2 (by omega)).trans (cell_of_cut c2)
    have g3 := (hcell' 3 (by omega)).trans (cell_of_cut c3)
    have g4 := (hcell' 4 (by omega)).trans (cell_of_cut c4)
    have g5 := (hcell' 5 (by omega)).trans (cell_of_cut c5)
    obtain ⟨o0, o1⟩ := bounds_u8 w0
    obtain ⟨x0, x1⟩ := bounds_u8 w1
    obtain ⟨b0, b1⟩ := bounds_u8 w2
    obtain ⟨m0, m1⟩ := bounds_u8 w3
    obtain ⟨d0, d1⟩ := bounds_u8 w4
    obtain ⟨n0, n1⟩ := bounds_i32 w5
    exact ⟨b, off, o, x', b', m', d, nn, rfl, World.block_lt_of_cell? W _ g0, o0, o1, x0, x1, b0, b1, m0, m1, d0, d1, n0, n1, g0, g1, g2, g3, g4, g5⟩
/-- The cut as it is read. -/
theorem cut_of {cs : Array Value} {fuel : Nat} {x : DataW H × List MemPlace}
    (hf : DataW.trod enc Yba.prog W 0 spare held fuel 23 (Value.agg cs).cells.toList = some x) : ∃ c0 c1 c2 : Int, cs = #[.int .u8 c0, .int .u8 c1, .int .u8 c2] ∧ 0 ≤ c0 ∧ c0 ≤ 255 ∧ 0 ≤ c1 ∧ c1 ≤ 255 ∧ 0 ≤ c2 ∧ c2 ≤ 255 := by
  obtain ⟨xs, m, _, _, hl, hxl, hfld⟩ := DataW.trod_array Yba.underlying23 hf
  rw [cells23] at hl
  rw [cells5] at hfld
  have hl' : cs.toList.length = 3 := by simpa [Value.cells] using hl
  obtain ⟨y0, e0⟩ := get_some hxl (show 0 < 3 by omega)
  obtain ⟨y1, e1⟩ := get_some hxl (show 1 < 3 by omega)
  obtain ⟨y2, e2⟩ := get_some hxl (show 2 < 3 by omega)
  obtain ⟨c0, k0, _, w0⟩ := DataW.trod_int Yba.underlying5 ((hfld 0 (by omega)).trans e0)
  obtain ⟨c1, k1, _, w1⟩ := DataW.trod_int Yba.underlying5 ((hfld 1 (by omega)).trans e1)
  obtain ⟨c2, k2, _, w2⟩ := DataW.trod_int Yba.underlying5 ((hfld 2 (by omega)).trans e2)
  have g0 := cell_of_cut k0
  have g1 := cell_of_cut k1
  have g2 := cell_of_cut k2
  obtain ⟨a0, a1⟩ := bounds_u8 w0
  obtain ⟨a2, a3⟩ := bounds_u8 w1
  obtain ⟨a4, a5⟩ := bounds_u8 w2
  refine ⟨c0, c1, c2, ?_, a0, a1, a2, a3, a4, a5⟩
  obtain ⟨l⟩ := cs
  simp only [Value.cells] at g0 g1 g2
  match l, hl', g0, g1, g2 with
  | [x0, x1, x2], _, g0, g1, g2 =>
    simp at g0 g1 g2
    rw [g0, g1, g2]
end

set_option maxRecDepth 100000 in
theorem lifted (os : Os) (started : os.Started) (H : Type) (enc : TypeId × Value → H) :
    ReturnsInHanded {} Yba.checked os 3 .any (Rows.lawS4483ATreeSpec.pre6 enc Yba.prog Yba.f3 Rows.lawS4483ATreeRow.domain false) (Rows.lawS4483ATreeSpec.post enc Yba.prog Yba.f3 false true false false) := by
  refine returnsInHanded_of_change (C := Yba.checked) own started (by kernel_rfl) Yba.func3
    (ChangeSpec.witness6 (enc := enc) (C := Yba.checked) false ⟨#[], #[.slice none 0 0, .agg #[.int .u8 0, .int .u8 0, .int .u8 0]], []⟩ 8 (by kernel_rfl) (by kernel_rfl) (by kernel_rfl) (by kernel_rfl)) ?_
  intro W base args ds gs before hval0 hW hcnd _
  have hval : ∀ (j : Nat) t v, Yba.f3.params[j]? = some t → args[j]? = some v → Value.okWide Yba.prog W .any base t v := hval0
  have hW' := hW
  obtain ⟨p, q, hA0, hV, rfl, hfz, hnd⟩ := hW
  have hA : DataW.TrodAll enc Yba.prog W 0 (fun _ => true) true Yba.f3.params.toList args.toList ds p := hA0
  rw [Yba.params3] at hA hval
  obtain ⟨v0, vs0, d0, ds0, p0, q0, hargs, rfl, rfl, h0, r0⟩ := trodAll_cons hA
  obtain ⟨v1, vs1, d1, ds1, p1, q1, rfl, rfl, rfl, h1, r1⟩ := trodAll_cons r0
  obtain ⟨rfl, rfl, rfl⟩ := trodAll_nil r1
  obtain rfl : args = #[v0, v1] := by cases args; simp_all
  obtain ⟨rfl, rfl⟩ := trodVars_none hV
  obtain ⟨a0, len0, cap0, rfl⟩ := okWide_slice Yba.underlying22 (hval 0 22 v0 rfl rfl)
  have k0 := h0
  have lt0 : ∀ x ∈ p0, x.block < W.heap.size := by obtain ⟨m, hm⟩ := k0; exact DataW.trod_lt m _ _ _ hm
  have k1 := h1
  have lt1 : ∀ x ∈ p1, x.block < W.heap.size := by obtain ⟨m, hm⟩ := k1; exact DataW.trod_lt m _ _ _ hm
  have hS : ∀ k, k < len0 → StepAt W a0 k := by
    obtain ⟨fuel, hf⟩ := h0
    exact steps_of (fun _ => rfl) hf
  obtain ⟨cs, rfl⟩ : ∃ cs, v1 = .agg cs := by
    have h := hval 1 23 v1 rfl rfl
    unfold Value.okWide at h
    rw [Yba.underlying23] at h
    obtain ⟨cs, h, _⟩ := h
    exact ⟨cs, h⟩
  obtain ⟨c0, c1, c2, rfl, b0, b1, b2, b3, b4, b5⟩ : ∃ c0 c1 c2 : Int, cs = #[.int .u8 c0, .int .u8 c1, .int .u8 c2] ∧ 0 ≤ c0 ∧ c0 ≤ 255 ∧ 0 ≤ c1 ∧ c1 ≤ 255 ∧ 0 ≤ c2 ∧ c2 ≤ 255 := by
    obtain ⟨fuel, hf⟩ := h1
    exact cut_of hf
  clear hA0 hval0
  refine (tree_any a0 len0 cap0 c0 c1 c2 W b0 b1 b2 b3 b4 b5 hS).mono fun e W' ⟨he, bel⟩ => ?_
  subst he
  exact ⟨_, rfl, _, _, _, [], _, [], hW', trodAll_mk1 (shut_bool Yba.underlying4 _), (trodAll_cons_mk (Below.trod laidOut (by kernel_rfl) (of_decide_eq_true (by kernel_rfl)) k0 bel lt0) (trodAll_cons_mk (Below.trod laidOut (by kernel_rfl) (of_decide_eq_true (by kernel_rfl)) k1 bel lt1) trodAll_mk0)), rfl, bel.frame _, fun h => by cases h⟩

theorem over : Rows.lawS4483ATreeRow.holds Yba.pinned (OpenSpec.ofChange Rows.lawS4483ATreeSpec) :=
  OpenClaim.holds_of_wide 3 Yba.f3 rfl rfl rfl rfl rfl rfl rfl ⟨rfl, rfl, rfl, rfl, rfl⟩ rfl rfl rfl rfl rfl (by kernel_rfl) Yba.func3 (by kernel_rfl)
    (of_decide_eq_true (by kernel_rfl)) (by unfold Func.isWrapper; first | (rw [if_pos (by decide +kernel)]; kernel_rfl) | (rw [if_neg (by decide +kernel)]; exact ⟨rfl, rfl⟩))
    (fun os started H enc _ => lifted os started H enc)

/-- The statement. -/
theorem proved : Rows.LawS4483ATreeSaid := over
end Go.Proofs.Ybulkcnuy.lawS4483ATree
