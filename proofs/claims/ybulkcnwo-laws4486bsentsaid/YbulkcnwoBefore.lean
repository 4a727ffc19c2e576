import Derived.Test.YbulkcnwoBef
import Derived.BigQuiet
namespace Go.Proofs.Ybulkcnwo
open Go.RowKit
theorem below_drewN (w : World) (n : Nat) : Below w.heap.size w (w.drewN n) := ⟨rfl, rfl, rfl, Nat.le_refl _, fun _ _ => rfl⟩
theorem rank_neq' {g t g' t' : Int} (t0 : -128 ≤ t) (t1 : t ≤ 127) (t0' : -128 ≤ t') (t1' : t' ≤ 127) (w : World) : (binOp .neq 54 (.agg #[.int .u64 g, .float .f64 (floatOfInt .f64 t), .float .f64 0]) (.agg #[.int .u64 g', .float .f64 (floatOfInt .f64 t'), .float .f64 0])).run Yba.prog w = .ok (.bool (!decide (g = g' ∧ t = t'))) w := rank_neq t0 t1 t0' t1' w
set_option maxHeartbeats 2000000 in
theorem before_any (w : World) (a b : Nat) (ra rb : R) (pa pb : Nat) (ha : RouteAt w a ra pa) (hb : RouteAt w b rb pb) (oa : ra.ok) (ob : rb.ok) (rf : Bool) :
    Calls Yba.prog 10 #[.pointer (some ⟨a, 0, none⟩), .pointer (some ⟨b, 0, none⟩), .bool rf] w fun e w' => e = .returned (.bool (bef rf ra rb)) ∧ Below w.heap.size w w' := by
  obtain ⟨a1, a2, a3, a4, a5, -⟩ := ha
  obtain ⟨b1, b2, b3, b4, b5, -⟩ := hb
  obtain ⟨x1, x2, x3, x4, -, x5⟩ := oa
  obtain ⟨y1, y2, y3, y4, -, y5⟩ := ob
  obtain ⟨reach, best, parked, at', beat⟩ := ra
  obtain ⟨reach', best', parked', at'', beat'⟩ := rb
  simp only at a2 a3 a4 a5 b2 b3 b4 b5 x1 x2 x3 x4 x5 y1 y2 y3 y4 y5
  have hq := ord_eq x1 x2 y1 y2
  have hn : (FloatKind.f64.format.order (floatOfInt FloatKind.f64 reach) (floatOfInt FloatKind.f64 reach') != some Ordering.eq) = !decide (reach = reach') := by rw [← hq]; rfl
  have hl := ord_lt x1 x2 y1 y2
  have hl2 := ord_lt x3 x4 y3 y4
  clear hq
  unfold fl at a2 a3 b2 b3
  by_cases hfr : rf = false ∧ ¬ reach = reach'
  · obtain ⟨rfl, hr⟩ := hfr
    rw [show bef false ⟨reach, best, parked, at', beat⟩ ⟨reach', best', parked', at'', beat'⟩ = decide (reach < reach') by simp [bef, hr]]
    clear a5 b5 x5 y5
    go_enter Yba.func10, Yba.ntmps10
    go_wp2_with fail
    go_quiet (fail)
    go_wp2_with fail
    go_quiet (fail)
    go_wp2_with fail
    go_ret
    exact ⟨by simp, ⟨rfl, rfl, rfl, Nat.le_refl _, fun _ _ => rfl⟩⟩
  · rcases beat with _ | ⟨c, g, t⟩ <;> rcases beat' with _ | ⟨c', g', t'⟩
    · simp only at a5 b5
      by_cases hr : reach = reach'
      · rw [show bef rf ⟨reach, best, parked, at', none⟩ ⟨reach', best', parked', at'', none⟩ = decide (best < best') by simp [bef, hr]]
        clear x5 y5 hfr
        subst hr
        cases rf
        · go_enter Yba.func10, Yba.ntmps10
          go_wp2_with fail
          go_quiet (fail)
          go_wp2_with fail
          go_quiet (fail)
          go_wp2_with fail
          go_quiet (fail)
          go_wp2_with fail
          go_quiet (fail)
          go_wp2_with fail
          go_quiet (fail)
          go_wp2_with fail
          go_ret
          exact ⟨by simp, ⟨rfl, rfl, rfl, Nat.le_refl _, fun _ _ => rfl⟩⟩
        · go_enter Yba.func10, Yba.ntmps10
          go_wp2_with fail
          go_quiet (fail)
          go_wp2_with fail
          go_quiet (fail)
          go_wp2_with fail
          go_quiet (fail)
          go_wp2_with fail
          go_quiet (fail)
          go_wp2_with fail
          go_quiet (fail)
          go_wp2_with fail
          go_ret
          exact ⟨by simp, ⟨rfl, rfl, rfl, Nat.le_refl _, fun _ _ => rfl⟩⟩
      · obtain rfl : rf = true := by cases rf <;> simp_all
        rw [show bef true ⟨reach, best, parked, at', none⟩ ⟨reach', best', parked', at'', none⟩ = decide (reach < reach') by simp [bef, hr]]
        clear x5 y5 hfr
        go_enter Yba.func10, Yba.ntmps10
        go_wp2_with fail
        go_quiet (fail)
        go_wp2_with fail
        go_quiet (fail)
        go_wp2_with fail
        go_quiet (fail)
        go_wp2_with fail
        go_quiet (fail)
        go_wp2_with fail
        go_quiet (fail)
        go_wp2_with fail
        go_ret
        exact ⟨by simp, ⟨rfl, rfl, rfl, Nat.le_refl _, fun _ _ => rfl⟩⟩
    · simp only at a5 b5
      obtain ⟨b5, b6, -⟩ := b5
      rw [show bef rf ⟨reach, best, parked, at', none⟩ ⟨reach', best', parked', at'', some (c', g', t')⟩ = false by simp only [bef]; rw [if_neg hfr]]
      clear x5 y5
      cases rf
      · have hr : reach = reach' := by simpa using hfr
        clear hfr
        subst hr
        go_enter Yba.func10, Yba.ntmps10
        go_wp2_with fail
        go_quiet (fail)
        go_wp2_with fail
        go_quiet (fail)
        go_wp2_with fail
        go_ret
        exact ⟨by simp, ⟨rfl, rfl, rfl, Nat.le_refl _, fun _ _ => rfl⟩⟩
      · clear hfr
        go_enter Yba.func10, Yba.ntmps10
        go_wp2_with fail
        go_quiet (fail)
        go_wp2_with fail
        go_quiet (fail)
        go_wp2_with fail
        go_ret
        exact ⟨by simp, ⟨rfl, rfl, rfl, Nat.le_refl _, fun _ _ => rfl⟩⟩
    · simp only at a5 b5
      obtain ⟨a5, a6, -⟩ := a5
      rw [show bef rf ⟨reach, best, parked, at', some (c, g, t)⟩ ⟨reach', best', parked', at'', none⟩ = true by simp only [bef]; rw [if_neg hfr]]
      clear x5 y5
      cases rf
      · have hr : reach = reach' := by simpa using hfr
        clear hfr
        subst hr
        go_enter Yba.func10, Yba.ntmps10
        go_wp2_with fail
        go_quiet (fail)
        go_wp2_with fail
        go_quiet (fail)
        go_wp2_with fail
        go_ret
        exact ⟨by simp, ⟨rfl, rfl, rfl, Nat.le_refl _, fun _ _ => rfl⟩⟩
      · clear hfr
        go_enter Yba.func10, Yba.ntmps10
        go_wp2_with fail
        go_quiet (fail)
        go_wp2_with fail
        go_quiet (fail)
        go_wp2_with fail
        go_ret
        exact ⟨by simp, ⟨rfl, rfl, rfl, Nat.le_refl _, fun _ _ => rfl⟩⟩
    · simp only at a5 b5
      obtain ⟨a5, a6, a7, a8, a9⟩ := a5
      obtain ⟨b5, b6, b7, b8, b9⟩ := b5
      obtain ⟨x5, x6, x7, x8⟩ := x5 c g t rfl
      obtain ⟨y5, y6, y7, y8⟩ := y5 c' g' t' rfl
      have hrn := fun w => rank_neq' (g := g) (g' := g') x7 x8 y7 y8 w
      by_cases hgt : g = g' ∧ t = t'
      · by_cases hr : reach = reach'
        · rw [show bef rf ⟨reach, best, parked, at', some (c, g, t)⟩ ⟨reach', best', parked', at'', some (c', g', t')⟩ = decide (best < best') by simp [bef, hr, hgt]]
          clear hfr
          unfold fl at a8 b8
          subst hr
          obtain ⟨rfl, rfl⟩ := hgt
          cases rf
          · go_enter Yba.func10, Yba.ntmps10
            go_wp2_with fail
            go_quiet (fail)
            go_wp2_with fail
            go_quiet (fail)
            go_wp2_with fail
            go_quiet (fail)
            go_wp2_with fail
            go_quiet (fail)
            go_wp2_with fail
            go_quiet (fail)
            go_wp2_with fail
            go_ret
            exact ⟨by simp, ⟨rfl, rfl, rfl, Nat.le_refl _, fun _ _ => rfl⟩⟩
          · go_enter Yba.func10, Yba.ntmps10
            go_wp2_with fail
            go_quiet (fail)
            go_wp2_with fail
            go_quiet (fail)
            go_wp2_with fail
            go_quiet (fail)
            go_wp2_with fail
            go_quiet (fail)
            go_wp2_with fail
            go_quiet (fail)
            go_wp2_with fail
            go_ret
            exact ⟨by simp, ⟨rfl, rfl, rfl, Nat.le_refl _, fun _ _ => rfl⟩⟩
        · obtain rfl : rf = true := by cases rf <;> simp_all
          rw [show bef true ⟨reach, best, parked, at', some (c, g, t)⟩ ⟨reach', best', parked', at'', some (c', g', t')⟩ = decide (reach < reach') by simp [bef, hr, hgt]]
          clear hfr
          unfold fl at a8 b8
          obtain ⟨rfl, rfl⟩ := hgt
          go_enter Yba.func10, Yba.ntmps10
          go_wp2_with fail
          go_quiet (fail)
          go_wp2_with fail
          go_quiet (fail)
          go_wp2_with fail
          go_quiet (fail)
          go_wp2_with fail
          go_quiet (fail)
          go_wp2_with fail
          go_quiet (fail)
          go_wp2_with fail
          go_ret
          exact ⟨by simp, ⟨rfl, rfl, rfl, Nat.le_refl _, fun _ _ => rfl⟩⟩
      · rw [show bef rf ⟨reach, best, parked, at', some (c, g, t)⟩ ⟨reach', best', parked', at'', some (c', g', t')⟩ = outr g t g' t' by simp only [bef]; rw [if_neg hfr, if_neg hgt]]
        have hk : ∀ w' : World, Below w.heap.size w w' → w'.cell? ⟨a, 39, none⟩ = some (.pointer (some ⟨c, 0, none⟩)) ∧ w'.cell? ⟨b, 39, none⟩ = some (.pointer (some ⟨c', 0, none⟩)) ∧ w'.cell? ⟨c, 0, none⟩ = some (.int .u64 g) ∧ w'.cell? ⟨c, 1, none⟩ = some (fl t) ∧ w'.cell? ⟨c, 2, none⟩ = some (.float .f64 0) ∧ w'.cell? ⟨c', 0, none⟩ = some (.int .u64 g') ∧ w'.cell? ⟨c', 1, none⟩ = some (fl t') ∧ w'.cell? ⟨c', 2, none⟩ = some (.float .f64 0) := fun w' h =>
          ⟨(h.cell (p := ⟨a, 39, none⟩) a1).trans a6, (h.cell (p := ⟨b, 39, none⟩) b1).trans b6, (h.cell (p := ⟨c, 0, none⟩) a5).trans a7, (h.cell (p := ⟨c, 1, none⟩) a5).trans a8, (h.cell (p := ⟨c, 2, none⟩) a5).trans a9, (h.cell (p := ⟨c', 0, none⟩) b5).trans b7, (h.cell (p := ⟨c', 1, none⟩) b5).trans b8, (h.cell (p := ⟨c', 2, none⟩) b5).trans b9⟩
        have HK := hide hk
        clear hk
        have a8' := a8
        have b8' := b8
        unfold fl at a8 b8
        cases rf
        · have hr : reach = reach' := by simpa using hfr
          clear hfr
          subst hr
          go_enter Yba.func10, Yba.ntmps10
          go_wp2_with fail
          go_quiet (fail)
          go_wp2_with fail
          go_quiet (fail)
          go_wp2_with fail
          go_quiet (fail)
          go_wp2_with fail
          clear hn hl hl2 hrn a2 a3 a4 b2 b3 b4 a6 a7 a8 a9 b6 b7 b8 b9
          generalize hW : World.drewN _ _ = W1
          have hB0 : Below w.heap.size w W1.drew := by rw [← hW]; exact ⟨rfl, rfl, rfl, Nat.le_refl _, fun _ _ => rfl⟩
          clear hW
          have hk := HK.out
          go_region_held3 (fun w' => Below w.heap.size w w')
            (first | exact hB1 | exact hB0)
            (first | (go_at_call 17; refine (outranks_any _ x7 x8 y7 y8 hgt).mono ?_; rintro e w5 ⟨rfl, hb5⟩; have hB1 : Below w.heap.size w w5 := hB0.trans (hb5.mono hB0.size); clear hb5))
          go_wp2_with fail
          go_ret
          exact ⟨by simp, hB1⟩
        · clear hfr
          go_enter Yba.func10, Yba.ntmps10
          go_wp2_with fail
          go_quiet (fail)
          go_wp2_with fail
          go_quiet (fail)
          go_wp2_with fail
          go_quiet (fail)
          go_wp2_with fail
          clear hn hl hl2 hrn a2 a3 a4 b2 b3 b4 a6 a7 a8 a9 b6 b7 b8 b9
          generalize hW : World.drewN _ _ = W1
          have hB0 : Below w.heap.size w W1.drew := by rw [← hW]; exact ⟨rfl, rfl, rfl, Nat.le_refl _, fun _ _ => rfl⟩
          clear hW
          have hk := HK.out
          go_region_held3 (fun w' => Below w.heap.size w w')
            (first | exact hB1 | exact hB0)
            (first | (go_at_call 17; refine (outranks_any _ x7 x8 y7 y8 hgt).mono ?_; rintro e w5 ⟨rfl, hb5⟩; have hB1 : Below w.heap.size w w5 := hB0.trans (hb5.mono hB0.size); clear hb5))
          go_wp2_with fail
          go_ret
          exact ⟨by simp, hB1⟩
end Go.Proofs.Ybulkcnwo
