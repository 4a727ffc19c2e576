import Derived.Test.YbulkcnwaEnt
namespace Go.Proofs.Ybulkcnwa
open Go.RowKit
/-- A table at block tb: its list owns the entries. -/
def TableAt (base : Nat) (w : World) (tb : Nat) (es : List Ent) : Prop :=
  ∃ g cc, base ≤ tb ∧ tb < w.heap.size ∧ base ≤ g ∧ g < w.heap.size ∧ w.cell? ⟨tb, 0, none⟩ = some (.slice (some ⟨g, 0, none⟩) es.length cc) ∧ w.ownsRow base 36 36 (.slice (some ⟨g, 0, none⟩) es.length cc) es.length (flat es)
set_option maxHeartbeats 1000000 in
set_option maxRecDepth 100000 in
theorem build_any (w : World) (a : Option Addr) (cap : Nat) (es : List Ent) (hn : es.length ≤ 1024) (hE : ∀ k (h : k < es.length), EntryAt w a k es[k]) :
    Calls Yba.prog 6 #[.slice a es.length cap] w fun e w' => ∃ tb, e = .returned (.pointer (some ⟨tb, 0, none⟩)) ∧ TableAt w.heap.size w' tb es ∧ Below w.heap.size w w' := by
  obtain ⟨i0, hi, hz0, hz1, hz2⟩ := info_parts info36
  have HE := hide hE
  clear hE
  go_enter Yba.func6, Yba.ntmps6
  go_wp2_with (at_make; refine wpList_make_own _ rfl _ _ 30 rfl w.heap.size 36 i0 _ 36 Yba.underlying30 hi hz0 hz1 _ _ _ es.length rfl rfl (by omega) (by rw [hz2]; omega) (by unfold maxLen; omega) (Nat.le_refl _) ?_; intro w1 hown1 hgr1)
  have hb1 : Below w.heap.size w w1 := (Below.refl _ _).grown hgr1 (Nat.le_refl _) (fun k e => by cases e)
  go_loopw [3, 11] (fun v i wr => ∃ k g cc : Nat, k ≤ es.length ∧ i = .int .i64 k ∧ v = .slice (some ⟨g, 0, none⟩) k cc ∧ wr.ownsRow w.heap.size 36 36 (.slice (some ⟨g, 0, none⟩) k cc) k (flat (es.take k)) ∧ Below w.heap.size w wr) (fun _ i _ => es.length - (intOf i).toNat)
  case atStart => exact ⟨0, _, _, Nat.zero_le _, rfl, rfl, hown1, hb1⟩
  case round =>
    clear hown1 hgr1 hb1
    obtain ⟨k, g, cc, hk, rfl, rfl, hown, hb⟩ := hrel
    by_cases hlt : k < es.length
    · obtain ⟨sb, so, x, rfl, hsb, x0, x1, hlv, -, -, q0, q1, q2, q3⟩ := HE.out k hlt
      have htk : es.take (k + 1) = es.take k ++ [es[k]] := List.take_succ_eq_append_getElem hlt
      generalize es[k] = e at hlv q1 q2 q3 htk
      obtain ⟨lv, ver, more, ga, gn, gc⟩ := e
      simp only at hlv q1 q2 q3
      subst hlv
      have p0 := (hb.cell (p := ⟨sb, so + k * 4, none⟩) hsb).trans q0
      have p1 := (hb.cell (p := ⟨sb, so + k * 4 + 1, none⟩) hsb).trans q1
      have p2 := (hb.cell (p := ⟨sb, so + k * 4 + 2, none⟩) hsb).trans q2
      have p3 := (hb.cell (p := ⟨sb, so + k * 4 + 3, none⟩) hsb).trans q3
      have hsb' : sb < wr.heap.size := by have := hb.size; omega
      have HTK := hide htk
      have hBW : Below wr.heap.size wr ((wr.alloc (.cells #[.int .u8 x, .int .i64 ver, .int .i64 more, .slice ga gn gc] 34)).alloc (.cells #[.int .u8 0, .int .u8 0, .int .u8 0, .int .u8 0, .int .u8 0, .int .u8 0, .int .u8 0, .int .u8 0, .int .u8 0, .int .u8 0, .int .u8 0, .int .u8 0, .int .u8 0, .int .u8 0, .int .u8 0, .int .u8 0, .int .u8 0, .int .u8 0, .int .u8 0, .int .u8 0, .int .u8 0, .int .u8 0, .int .u8 0, .int .u8 0, .int .u8 0, .int .u8 0, .int .u8 0, .int .u8 0, .int .u8 0, .int .u8 0, .int .u8 0, .int .u8 0, .int .u16 (x % 8), .slice ga gn gc, .int .i64 ver, .int .i64 more] 36)) := ((Below.refl _ _).alloc (Nat.le_refl _) _).alloc (by simp) _
      have hF : Blk ((wr.alloc (.cells #[.int .u8 x, .int .i64 ver, .int .i64 more, .slice ga gn gc] 34)).alloc (.cells #[.int .u8 0, .int .u8 0, .int .u8 0, .int .u8 0, .int .u8 0, .int .u8 0, .int .u8 0, .int .u8 0, .int .u8 0, .int .u8 0, .int .u8 0, .int .u8 0, .int .u8 0, .int .u8 0, .int .u8 0, .int .u8 0, .int .u8 0, .int .u8 0, .int .u8 0, .int .u8 0, .int .u8 0, .int .u8 0, .int .u8 0, .int .u8 0, .int .u8 0, .int .u8 0, .int .u8 0, .int .u8 0, .int .u8 0, .int .u8 0, .int .u8 0, .int .u8 0, .int .u16 (x % 8), .slice ga gn gc, .int .i64 ver, .int .i64 more] 36)) (wr.heap.size + 1) 36 (Ent.mk (x % 8) ver more ga gn gc).arr := Blk.new' (by simp)
      have HF := hide hF
      have HOW := hide (owns_below hown hBW)
      have HG := hide (hown.lt g rfl)
      have hbd3 : w.heap.size ≤ ((wr.alloc (.cells #[.int .u8 x, .int .i64 ver, .int .i64 more, .slice ga gn gc] 34)).alloc (.cells #[.int .u8 0, .int .u8 0, .int .u8 0, .int .u8 0, .int .u8 0, .int .u8 0, .int .u8 0, .int .u8 0, .int .u8 0, .int .u8 0, .int .u8 0, .int .u8 0, .int .u8 0, .int .u8 0, .int .u8 0, .int .u8 0, .int .u8 0, .int .u8 0, .int .u8 0, .int .u8 0, .int .u8 0, .int .u8 0, .int .u8 0, .int .u8 0, .int .u8 0, .int .u8 0, .int .u8 0, .int .u8 0, .int .u8 0, .int .u8 0, .int .u8 0, .int .u8 0, .int .u16 (x % 8), .slice ga gn gc, .int .i64 ver, .int .i64 more] 36)).heap.size := by have := hb.size; simp; omega
      have HBW := hide hBW
      have hbd1 : k + 1 ≤ maxLen := by unfold maxLen; omega
      have hbd2 : (k + 1) * 80 ≤ 140737488355328 := by omega
      clear htk hBW hF hown q0 q1 q2 q3
      go_wp2_with (at_builtin; refine wpList_append_lies _ rfl (.tmp 15) (.tmp 28) 30 rfl w.heap.size 36 i0 _ 36 80 Yba.underlying30 hi hz0 hz1 hz2 rfl (by decide) (.slice (some ⟨g, 0, none⟩) k cc) k (flat (es.take k)) rfl HOW.out ⟨wr.heap.size + 1, 0, none⟩ 1 1 (Ent.mk (x % 8) ver more ga gn gc).arr.toList rfl rfl HF.out.news (arr_oneCell _) (by decide) hbd1 hbd2 hbd3 _ rfl ?_; intro g' cc' w2 hown2 hgr2 hg2 hl2)
      go_roundw
      case rel => exact ⟨k + 1, g', cc', by omega, by go_num, rfl, by rw [HTK.out, flat_append, flat_one]; exact hown2, (hb.trans (HBW.out.mono hb.size)).grown hgr2 (by have := hb.size; simp; omega) (fun j ej => by have := HG.out.1; simp [Value.ownBlock] at ej; omega)⟩
      case measure => simp [intOf]; omega
    · obtain rfl : k = es.length := by omega
      have hg := hown.lt g rfl
      rw [List.take_of_length_le (Nat.le_refl _)] at hown
      have HOW := hide hown
      clear hown
      go_wp2_with fail
      go_ret
      refine ⟨wr.heap.size, rfl, ⟨g, cc, by have := hb.size; omega, by simp, hg.1, by simp; omega, by simp [go_sem], HOW.out.alloc _⟩, hb.alloc (by have := hb.size; omega) _⟩
end Go.Proofs.Ybulkcnwa
