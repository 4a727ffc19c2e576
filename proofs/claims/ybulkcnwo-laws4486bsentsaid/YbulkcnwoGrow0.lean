import Derived.Test.YbulkcnwoGrow
namespace Go.Proofs.Ybulkcnwo
open Go.RowKit
set_option maxHeartbeats 1000000 in
theorem grow_nil (w : World) (L : Nat) (bs : Nat → Nat) (rs : Nat → R) (held parked own : Int) (few many spans : Value) (rf : Bool)
    (hL : LineAt w L ⟨.slice none 0 0, held, parked, own, few, many, spans, rf⟩) :
    Calls Yba.prog 13 #[.pointer (some ⟨L, 0, none⟩)] w fun e w' => ∃ v, e = .returned v ∧ ∃ gS sp, Keep (fun k => k = L) w w' ∧ w.heap.size ≤ gS ∧
      LineAt w' L ⟨.slice none 0 0, held, parked, own, few, many, .slice (some ⟨gS, 0, none⟩) 2 2, rf⟩ ∧ Spans w' gS 2 bs sp ∧ (∀ k, k < 2 → (sp k).In 0) ∧ Tree rf 0 1 rs sp := by
  have l0 : w.cell? ⟨L, 0, none⟩ = some (.slice none 0 0) := hL.cell 0
  have l7 : w.cell? ⟨L, 7, none⟩ = some (.int .i64 0) := hL.cell 7
  have l6 : w.cell? ⟨L, 6, none⟩ = some spans := hL.cell 6
  have f0 := hL.frozen 0
  have f6 := hL.frozen 6
  have hLlt := hL.ty.lt
  have hcl := clear25
  have HL := hide hL
  clear hL
  have hs0 := setCell_self l0
  go_enter Yba.func13, Yba.ntmps13
  go_wp2_with fail
  go_loopw [2, 24] (fun v i wr => i = .int .i64 0 ∧ v = .slice none 0 0 ∧ wr = w) (fun _ _ _ => 0)
  case atStart => exact ⟨rfl, rfl, rfl⟩
  case round =>
    obtain ⟨rfl, rfl, rfl⟩ := hrel
    rename World => W0
    go_wp2_with fail
    go_loopw [5] (fun v wr => v = .int .i64 1 ∧ wr = W0) (fun _ _ => 0)
    case atStart => exact ⟨rfl, rfl⟩
    case round =>
      obtain ⟨rfl, rfl⟩ := hrel
      go_wp2_with (at_make; go_must (refine wpList_make_run rfl 30 (.tmp 63) (.tmp 63) rfl (.int .i64 (2 : Nat)) (.int .i64 (2 : Nat)) rfl rfl (make_spans _ 2 (by omega)) ?_))
      have hzX : (wr.setCell ⟨L, 6, none⟩ (.slice (some ⟨wr.heap.size, 0, none⟩) 2 2)).heap.size = wr.heap.size := by simp [World.setCell]
      have HL4 : Hid (LineAt ((wr.setCell ⟨L, 6, none⟩ (.slice (some ⟨wr.heap.size, 0, none⟩) 2 2)).alloc (.cells (madeCells #[.pointer none, .pointer none, .pointer none] (2 * 3)) 67)) L ⟨.slice none 0 0, held, parked, own, few, many, .slice (some ⟨wr.heap.size, 0, none⟩) 2 2, rf⟩) :=
        (Below.heap_alloc _ _ _ (by rw [hzX]; exact hLlt)).trans (LineAt.setSpans (h := ⟨.slice none 0 0, held, parked, own, few, many, spans, rf⟩) HL.out _)
      have HK4 : Hid (Keep (fun k => k = L) wr ((wr.setCell ⟨L, 6, none⟩ (.slice (some ⟨wr.heap.size, 0, none⟩) 2 2)).alloc (.cells (madeCells #[.pointer none, .pointer none, .pointer none] (2 * 3)) 67))) :=
        ((Keep.refl (fun k => k = L) wr).setCell (p := ⟨L, 6, none⟩) (.inl rfl) _).alloc _
      have HSP : Hid (Spans ((wr.setCell ⟨L, 6, none⟩ (.slice (some ⟨wr.heap.size, 0, none⟩) 2 2)).alloc (.cells (madeCells #[.pointer none, .pointer none, .pointer none] (2 * 3)) 67)) wr.heap.size 2 bs (fun _ => Sp0)) := by
        have h := spans_new (wr.setCell ⟨L, 6, none⟩ (.slice (some ⟨wr.heap.size, 0, none⟩) 2 2)) 2 bs
        rwa [hzX] at h
      clear hzX
      rename World => W0
      simp only [show (2 * 3 : Nat) = 6 from rfl] at HL4 HK4 HSP
      generalize World.alloc _ _ = W4 at HL4 HK4 HSP ⊢
      go_loopw [72] (fun v wr => v = .int .i64 0 ∧ wr = W4) (fun _ _ => 0)
      case atStart => exact ⟨rfl, rfl⟩
      case round =>
        obtain ⟨rfl, rfl⟩ := hrel
        rename World => W5
        go_wp2_with fail
        go_loopw [8] (fun v wr => v = .int .i64 0 ∧ wr = W5) (fun _ _ => 0)
        case atStart => exact ⟨rfl, rfl⟩
        case round =>
          obtain ⟨rfl, rfl⟩ := hrel
          go_wp2_with fail
          refine bodyPost_end (v := .tuple #[]) (by simp [results, Yba.results13, go_sem]) rfl ⟨_, rfl, _, _, HK4.out, Nat.le_refl _, HL4.out, HSP.out, fun k hk => Sp0_in _, fun k k1 k2 => ?_, fun k k1 k2 => by omega⟩
          unfold leafS; rw [if_neg (by omega)]; rfl
end Go.Proofs.Ybulkcnwo
