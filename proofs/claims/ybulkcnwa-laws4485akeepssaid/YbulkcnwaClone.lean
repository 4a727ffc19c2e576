import Derived.Test.YbulkcnwaExact
import Derived.Maps.AppendAt
import Derived.Deep.Cut
namespace Go.Proofs.Ybulkcnwa
open Go.RowKit
/-- A row of entries that can be read. -/
def Row (w : World) (pa : Option Addr) (l : List Ent) : Prop :=
  ∀ j (h : j < l.length), ∃ g, pa = some ⟨g, 0, none⟩ ∧ g < w.heap.size ∧ w.rangeAt g (j * 36) l[j].arr.toList
theorem Row.later {w w' : World} {pa : Option Addr} {l : List Ent} (h : Row w pa l) (hb : Below w.heap.size w w') : Row w' pa l :=
  fun j hj => by
    obtain ⟨g, h1, h2, h3⟩ := h j hj
    exact ⟨g, h1, Nat.lt_of_lt_of_le h2 hb.size, range_below h3 hb⟩
theorem flat_oneCell (es : List Ent) : ∀ u ∈ flat es, u.oneCell' = true := by
  intro u hu
  simp only [flat, List.mem_flatMap] at hu
  obtain ⟨e, _, hu⟩ := hu
  exact arr_oneCell e u hu
set_option maxHeartbeats 1000000 in
theorem clone_any (w : World) (base g cc : Nat) (es : List Ent) (hn : es.length ≤ 1024) (hrow : w.ownsRow base 36 36 (.slice (some ⟨g, 0, none⟩) es.length cc) es.length (flat es)) :
    Calls Yba.prog 9 #[.slice (some ⟨g, 0, none⟩) es.length cc] w fun e w' => ∃ pa c2, e = .returned (.slice pa es.length c2) ∧ Below w.heap.size w w' ∧ Hid (Row w' pa es) := by
  obtain ⟨i0, hi, hz0, hz1, hz2⟩ := info_parts info36
  have hq : ∀ w : World, (binOp .eql 30 (.slice (some ⟨g, 0, none⟩) es.length cc) (.slice none 0 0)).run Yba.prog w = .ok (.bool false) w := fun w => eql_nil30 w _ _ _
  have HR := hide hrow
  clear hrow
  go_enter Yba.func9, Yba.ntmps9
  go_wp2_with (at_builtin; go_must (refine wpList_append_own_at _ rfl (.tmp 5) (.tmp 6) 30 rfl w.heap.size 36 i0 _ 36 80 Yba.underlying30 hi hz0 hz1 hz2 rfl (by decide) (.slice (some ⟨w.heap.size, 0, none⟩) 0 0) 0 [] rfl (World.ownsRow_made w #[] 0 (Nat.le_refl _) (Nat.zero_le _) rfl) ⟨g, 0, none⟩ es.length cc (flat es) rfl (flat_length es) (World.ownsRow.cells (HR.out.alloc _) rfl) (flat_oneCell es) (by unfold maxLen; omega) (by omega) (by simp) ?_); intro v2 w2 hown2 hgr2 hnil2 hat2)
  rcases hown2.2 with ⟨rfl, h0⟩ | ⟨g2, c2, cur, rfl, -⟩
  · exact absurd (hnil2.1 rfl).1 (by simp)
  · have hb2 : Below w.heap.size w w2 := ((Below.refl _ _).alloc (Nat.le_refl _) _).grown hgr2 (by simp) (fun j ej => by simp [Value.ownBlock] at ej; omega)
    have HO2 := hide hown2
    clear hown2 hgr2 hnil2 hat2
    go_wp2_with fail
    go_ret
    refine ⟨some ⟨g2, 0, none⟩, ⟨c2, by simp⟩, hb2, ?_⟩
    have hown := HO2.out
    rw [Nat.zero_add, List.nil_append] at hown
    exact fun j hj => ⟨g2, rfl, (hown.lt g2 rfl).2, row_range hown rfl j hj⟩
set_option maxHeartbeats 1000000 in
set_option maxRecDepth 100000 in
theorem same_any (w : World) (lv ver more : Int) (ga : Option Addr) (gn gc : Nat) (hgn : gn ≤ maxLen) (hgt : Texts w ga gn) :
    Calls Yba.prog 10 #[.agg #[.int .u8 0, .int .u8 0, .int .u8 0, .int .u8 0, .int .u8 0, .int .u8 0, .int .u8 0, .int .u8 0, .int .u8 0, .int .u8 0, .int .u8 0, .int .u8 0, .int .u8 0, .int .u8 0, .int .u8 0, .int .u8 0, .int .u8 0, .int .u8 0, .int .u8 0, .int .u8 0, .int .u8 0, .int .u8 0, .int .u8 0, .int .u8 0, .int .u8 0, .int .u8 0, .int .u8 0, .int .u8 0, .int .u8 0, .int .u8 0, .int .u8 0, .int .u8 0, .int .u16 lv, .slice ga gn gc, .int .i64 ver, .int .i64 more], .agg #[.int .u8 0, .int .u8 0, .int .u8 0, .int .u8 0, .int .u8 0, .int .u8 0, .int .u8 0, .int .u8 0, .int .u8 0, .int .u8 0, .int .u8 0, .int .u8 0, .int .u8 0, .int .u8 0, .int .u8 0, .int .u8 0, .int .u8 0, .int .u8 0, .int .u8 0, .int .u8 0, .int .u8 0, .int .u8 0, .int .u8 0, .int .u8 0, .int .u8 0, .int .u8 0, .int .u8 0, .int .u8 0, .int .u8 0, .int .u8 0, .int .u8 0, .int .u8 0, .int .u16 lv, .slice ga gn gc, .int .i64 ver, .int .i64 more]] w fun e w' => e = .returned (.bool true) ∧ Below w.heap.size w w' := by
  have HGT := hide hgt
  clear hgt
  go_enter Yba.func10, Yba.ntmps10
  have hze := eql29
  go_upto_region 1 with fail
  generalize hWA : World.alloc w _ = WA
  have HLA : Hid (Laid w WA [.int .u8 0, .int .u8 0, .int .u8 0, .int .u8 0, .int .u8 0, .int .u8 0, .int .u8 0, .int .u8 0, .int .u8 0, .int .u8 0, .int .u8 0, .int .u8 0, .int .u8 0, .int .u8 0, .int .u8 0, .int .u8 0, .int .u8 0, .int .u8 0, .int .u8 0, .int .u8 0, .int .u8 0, .int .u8 0, .int .u8 0, .int .u8 0, .int .u8 0, .int .u8 0, .int .u8 0, .int .u8 0, .int .u8 0, .int .u8 0, .int .u8 0, .int .u8 0, .int .u16 lv, .slice ga gn gc, .int .i64 ver, .int .i64 more]) := hWA ▸ laid_alloc w _ 36
  clear hWA
  generalize hWB : World.alloc WA _ = WB
  have HLB : Hid (Laid WA WB [.int .u8 0, .int .u8 0, .int .u8 0, .int .u8 0, .int .u8 0, .int .u8 0, .int .u8 0, .int .u8 0, .int .u8 0, .int .u8 0, .int .u8 0, .int .u8 0, .int .u8 0, .int .u8 0, .int .u8 0, .int .u8 0, .int .u8 0, .int .u8 0, .int .u8 0, .int .u8 0, .int .u8 0, .int .u8 0, .int .u8 0, .int .u8 0, .int .u8 0, .int .u8 0, .int .u8 0, .int .u8 0, .int .u8 0, .int .u8 0, .int .u8 0, .int .u8 0, .int .u16 lv, .slice ga gn gc, .int .i64 ver, .int .i64 more]) := hWB ▸ laid_alloc WA _ 36
  clear hWB
  have hz := HLA.out.2.1
  have c33 := (HLB.out.1.cell (p := ⟨w.heap.size, 33, none⟩) (by show w.heap.size < _; omega)).trans (HLA.out.cell 33 rfl)
  have d33 := HLB.out.cell 33 rfl
  have c34 := (HLB.out.1.cell (p := ⟨w.heap.size, 34, none⟩) (by show w.heap.size < _; omega)).trans (HLA.out.cell 34 rfl)
  have d34 := HLB.out.cell 34 rfl
  have c35 := (HLB.out.1.cell (p := ⟨w.heap.size, 35, none⟩) (by show w.heap.size < _; omega)).trans (HLA.out.cell 35 rfl)
  have d35 := HLB.out.cell 35 rfl
  rw [hz] at d33 d34 d35
  have HLC : Hid (WB.rangeAt (w.heap.size + 1) 0 [.int .u8 0, .int .u8 0, .int .u8 0, .int .u8 0, .int .u8 0, .int .u8 0, .int .u8 0, .int .u8 0, .int .u8 0, .int .u8 0, .int .u8 0, .int .u8 0, .int .u8 0, .int .u8 0, .int .u8 0, .int .u8 0, .int .u8 0, .int .u8 0, .int .u8 0, .int .u8 0, .int .u8 0, .int .u8 0, .int .u8 0, .int .u8 0, .int .u8 0, .int .u8 0, .int .u8 0, .int .u8 0, .int .u8 0, .int .u8 0, .int .u8 0, .int .u8 0, .int .u16 lv, .slice ga gn gc, .int .i64 ver, .int .i64 more]) := hz ▸ HLB.out.2.2
  clear hz
  go_wp2_with (first | (refine wpList_load_mid rfl 29 (.tmp 5) rfl w.heap.size 0 rfl [.int .u8 0, .int .u8 0, .int .u8 0, .int .u8 0, .int .u8 0, .int .u8 0, .int .u8 0, .int .u8 0, .int .u8 0, .int .u8 0, .int .u8 0, .int .u8 0, .int .u8 0, .int .u8 0, .int .u8 0, .int .u8 0, .int .u8 0, .int .u8 0, .int .u8 0, .int .u8 0, .int .u8 0, .int .u8 0, .int .u8 0, .int .u8 0, .int .u8 0, .int .u8 0, .int .u8 0, .int .u8 0, .int .u8 0, .int .u8 0, .int .u8 0, .int .u8 0, .int .u16 lv] _ ?_ Yba.underlying29 rfl size29 ?_; (go_must (exact range_take (ys := [.slice ga gn gc, .int .i64 ver, .int .i64 more]) (range_below HLA.out.2.2 HLB.out.1)))) | (refine wpList_load_mid rfl 29 (.tmp 7) rfl (w.heap.size + 1) 0 rfl [.int .u8 0, .int .u8 0, .int .u8 0, .int .u8 0, .int .u8 0, .int .u8 0, .int .u8 0, .int .u8 0, .int .u8 0, .int .u8 0, .int .u8 0, .int .u8 0, .int .u8 0, .int .u8 0, .int .u8 0, .int .u8 0, .int .u8 0, .int .u8 0, .int .u8 0, .int .u8 0, .int .u8 0, .int .u8 0, .int .u8 0, .int .u8 0, .int .u8 0, .int .u8 0, .int .u8 0, .int .u8 0, .int .u8 0, .int .u8 0, .int .u8 0, .int .u8 0, .int .u16 lv] _ ?_ Yba.underlying29 rfl size29 ?_; (go_must (exact range_take (ys := [.slice ga gn gc, .int .i64 ver, .int .i64 more]) HLC.out))) | (go_at_call 8; go_must (refine (equal_same WB ga gn gc hgn ((HGT.out.later HLA.out.1).later HLB.out.1)).mono ?_); rintro _ w4 ⟨rfl, hb4⟩))
  go_ret
  have hL := HLA.out.1
  have hL2 := hL.trans (HLB.out.1.mono hL.size)
  exact ⟨rfl, hL2.trans (hb4.mono hL2.size)⟩
end Go.Proofs.Ybulkcnwa
