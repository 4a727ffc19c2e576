import Derived.Test.YbulkcnuyTreeC0
import Derived.Test.YbulkcnuyTreeC1
import Derived.Test.YbulkcnuyTreeC2
import Derived.Test.YbulkcnuyTreeC3
import Derived.Test.YbulkcnuyTreeC4
namespace Go.Proofs.Ybulkcnuy
open Go.RowKit
set_option linter.unusedVariables false
set_option maxHeartbeats 8000000 in
set_option maxRecDepth 100000 in
theorem tree_any (a : Option Addr) (len cap : Nat) (c0 c1 c2 : Int) (w : World) (h0 : 0 ≤ c0) (h0' : c0 ≤ 255) (h1 : 0 ≤ c1) (h1' : c1 ≤ 255) (h2 : 0 ≤ c2) (h2' : c2 ≤ 255)
    (hS : ∀ k, k < len → StepAt w a k) :
    Calls Yba.prog 3 #[.slice a len cap, .agg #[.int .u8 c0, .int .u8 c1, .int .u8 c2]] w fun e w' => e = .returned (.bool true) ∧ Below w.heap.size w w' := by
  obtain ⟨i0, hi, hz0, hz1, hz2⟩ := info_parts info38
  by_cases hl : len ≤ 512
  · have hl' : ¬ (512 : Int) < len := by omega
    have HC : Hid (∀ j, cutOf c0 c1 c2 j < 4) := cutOf_lt c0 c1 c2
    go_enter Yba.func3, Yba.ntmps3
    go_wp2_with fail
    go_loopw [6, 53] (fun v i wr => ∃ (k : Nat) (its : List (Nat × Bool)), k ≤ len ∧ i = .int .i64 k ∧ Inv w (cutOf c0 c1 c2) k v its wr) (fun _ i _ => len - (intOf i).toNat)
    case atStart =>
      refine ⟨0, [], Nat.zero_le _, rfl, Nat.zero_le _, World.ownsRow_nil _ _ _ _, by simp, ⟨?_, HC.out 0, HC.out 1, HC.out 2⟩, ((Below.refl _ _).alloc (Nat.le_refl _) _).alloc (by simp) _, by simp⟩
      have e0 : (c0 % 4) = ((cutOf c0 c1 c2 0 : Nat) : Int) := by simp [cutOf]; omega
      have e1 : (c1 % 4) = ((cutOf c0 c1 c2 1 : Nat) : Int) := by simp [cutOf]; omega
      have e2 : (c2 % 4) = ((cutOf c0 c1 c2 2 : Nat) : Int) := by simp [cutOf]; omega
      rw [← e0, ← e1, ← e2]
      exact Blk.new' (by simp)
    case round =>
      rename_i v _ _
      obtain ⟨k, its, hk, rfl, hI⟩ := hrel
      generalize cutOf c0 c1 c2 = c at hI HC ⊢
      clear h0 h0' h1 h1' h2 h2'
      by_cases hlt : k < len
      · obtain ⟨sb, so, o, x, b, m, d, n, rfl, hsb, o0, o1, x0, x1, b0, b1, m0, m1, d0, d1, n0, n1, q0, q1, q2, q3, q4, q5⟩ := hS k hlt
        have hB := hI.2.2.2.2.1
        have p0 := (hB.cell (p := ⟨sb, so + k * 6, none⟩) hsb).trans q0
        have p1 := (hB.cell (p := ⟨sb, so + k * 6 + 1, none⟩) hsb).trans q1
        have p2 := (hB.cell (p := ⟨sb, so + k * 6 + 2, none⟩) hsb).trans q2
        have p3 := (hB.cell (p := ⟨sb, so + k * 6 + 3, none⟩) hsb).trans q3
        have p4 := (hB.cell (p := ⟨sb, so + k * 6 + 4, none⟩) hsb).trans q4
        have p5 := (hB.cell (p := ⟨sb, so + k * 6 + 5, none⟩) hsb).trans q5
        have hsb' : sb < wr.heap.size := by have := hB.size; omega
        have hkm : k + 1 ≤ 512 := by omega
        clear q0 q1 q2 q3 q4 q5 hS hB hl
        rcases (show o % 5 = 0 ∨ o % 5 = 1 ∨ o % 5 = 2 ∨ o % 5 = 3 ∨ o % 5 = 4 by omega) with ho | ho | ho | ho | ho
        · refine case0 rfl hi hz0 hz1 hz2 HC (by omega) hk hlt hkm hI hsb' o0 o1 x0 x1 b0 b1 m0 m1 d0 d1 n0 n1 p0 p1 p2 p3 p4 p5 ho ?_
          intros
          rename_i v' its' w' hinv
          refine ⟨?_, by simp [intOf]; omega⟩
          (repeat apply Exists.intro)
          refine ⟨?_, rfl⟩
          exact ⟨k + 1, its', by omega, by go_num, hinv⟩
        · refine case1 rfl hi hz0 hz1 hz2 HC (by omega) hk hlt hkm hI hsb' o0 o1 x0 x1 b0 b1 m0 m1 d0 d1 n0 n1 p0 p1 p2 p3 p4 p5 ho ?_
          intros
          rename_i v' its' w' hinv
          refine ⟨?_, by simp [intOf]; omega⟩
          (repeat apply Exists.intro)
          refine ⟨?_, rfl⟩
          exact ⟨k + 1, its', by omega, by go_num, hinv⟩
        · refine case2 rfl hi hz0 hz1 hz2 HC (by omega) hk hlt hkm hI hsb' o0 o1 x0 x1 b0 b1 m0 m1 d0 d1 n0 n1 p0 p1 p2 p3 p4 p5 ho ?_
          intros
          rename_i v' its' w' hinv
          refine ⟨?_, by simp [intOf]; omega⟩
          (repeat apply Exists.intro)
          refine ⟨?_, rfl⟩
          exact ⟨k + 1, its', by omega, by go_num, hinv⟩
        · refine case3 rfl hi hz0 hz1 hz2 HC (by omega) hk hlt hkm hI hsb' o0 o1 x0 x1 b0 b1 m0 m1 d0 d1 n0 n1 p0 p1 p2 p3 p4 p5 ho ?_
          intros
          rename_i v' its' w' hinv
          refine ⟨?_, by simp [intOf]; omega⟩
          (repeat apply Exists.intro)
          refine ⟨?_, rfl⟩
          exact ⟨k + 1, its', by omega, by go_num, hinv⟩
        · refine case4 rfl hi hz0 hz1 hz2 HC (by omega) hk hlt hkm hI hsb' o0 o1 x0 x1 b0 b1 m0 m1 d0 d1 n0 n1 p0 p1 p2 p3 p4 p5 ho ?_
          intros
          rename_i v' its' w' hinv
          refine ⟨?_, by simp [intOf]; omega⟩
          (repeat apply Exists.intro)
          refine ⟨?_, rfl⟩
          exact ⟨k + 1, its', by omega, by go_num, hinv⟩
      · as_aux_lemma =>
        rcases hI.form with ⟨rfl, rfl⟩ | ⟨g, vc, nn, rfl, hnn, hvc, hgl, hgb⟩
        · have hb := hI.2.2.2.2.1
          clear hI
          go_wp2_with fail
          rename World => W0
          go_loopw [301] (fun i w2 => i = .int .i64 0 ∧ w2 = W0) (fun _ _ => 0)
          case atStart => exact ⟨rfl, rfl⟩
          case round =>
            obtain ⟨rfl, rfl⟩ := hrel
            go_wp2_with fail
            go_ret
            exact ⟨rfl, hb⟩
        · have hb := hI.2.2.2.2.1
          have HI := hide hI
          have HN := hide hnn
          have hnm : nn ≤ 512 := by have := hI.1; omega
          clear hI hnn
          go_wp2_with fail
          rename World => W0
          go_loopw [301] (fun i w2 => ∃ j : Nat, j ≤ nn ∧ i = .int .i64 j ∧ Below W0.heap.size W0 w2) (fun i _ => nn - (intOf i).toNat)
          case atStart => exact ⟨0, Nat.zero_le _, rfl, Below.refl _ _⟩
          case round =>
            obtain ⟨j, hj, rfl, hb2⟩ := hrel
            by_cases hjl : j < nn
            · obtain ⟨-, e1, e2, -⟩ := HI.out.cells j (by rw [← HN.out]; exact hjl)
              have hgood := HI.out.2.2.1 _ (List.getElem_mem (by rw [← HN.out]; exact hjl : j < its.length))
              generalize its[j]'(by rw [← HN.out]; exact hjl) = it at e1 e2 hgood
              obtain ⟨p, bq⟩ := it
              simp only at e1 e2 hgood
              have f1 := (hb2.cell (p := ⟨g, j * 2, none⟩) hgl).trans e1
              have f2 := (hb2.cell (p := ⟨g, j * 2 + 1, none⟩) hgl).trans e2
              have HG := hide hgood
              clear e1 e2 hgood
              go_wp2_with fail
              have hA : (wr.alloc (.cells #[.pointer (some ⟨p, 0, none⟩), .bool bq] 38)).drew.cell? ⟨wr.heap.size, 0, none⟩ = some (.pointer (some ⟨p, 0, none⟩)) := by simp [go_sem]
              have hA' : (wr.alloc (.cells #[.pointer (some ⟨p, 0, none⟩), .bool bq] 38)).drew.cell? ⟨wr.heap.size, 1, none⟩ = some (.bool bq) := by simp [go_sem]
              have hI2 : Below wr.heap.size wr (wr.alloc (.cells #[.pointer (some ⟨p, 0, none⟩), .bool bq] 38)).drew := ((Below.refl _ _).alloc (Nat.le_refl _) _).drew
              go_region_held3 (fun w' => w'.cell? ⟨wr.heap.size, 0, none⟩ = some (.pointer (some ⟨p, 0, none⟩)) ∧ w'.cell? ⟨wr.heap.size, 1, none⟩ = some (.bool bq))
                (first | exact ⟨hA, hA'⟩ | exact ⟨k1, k2⟩)
                (first | (go_at_call 9; refine (HG.out _ ((Kept.of_below hb2).trans (Kept.of_below hI2))).mono ?_; rintro e w1 ⟨rfl, h1⟩; have k1 := (h1.cell (p := ⟨wr.heap.size, 0, none⟩) (by simp)).trans hA; have k2 := (h1.cell (p := ⟨wr.heap.size, 1, none⟩) (by simp)).trans hA'; have hb3 := hb2.trans ((hI2.trans (h1.mono (by simp))).mono hb2.size)))
              go_wp2_with fail
              go_roundw
              case rel => exact ⟨j + 1, by omega, by go_num, hb3⟩
              case measure => simp [intOf]; omega
            · go_wp2_with fail
              go_ret
              exact ⟨rfl, hb.trans (hb2.mono hb.size)⟩
  · as_aux_lemma =>
    have hl' : (512 : Int) < len := by omega
    go_enter Yba.func3, Yba.ntmps3
    go_wp2_with fail
    go_ret
    exact ⟨rfl, (Below.refl _ _).alloc (Nat.le_refl _) _⟩
end Go.Proofs.Ybulkcnuy
