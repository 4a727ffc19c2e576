import Derived.Test.YbulkcnwoBefore
namespace Go.Proofs.Ybulkcnwo
open Go.RowKit
/-- The routes in their blocks. -/
def Routes (w : World) (n : Nat) (bs : Nat → Nat) (rs : Nat → R) : Prop := ∀ i, i < n → RouteAt w (bs i) (rs i) i ∧ (rs i).ok
theorem RouteAt.later {w w' : World} {b : Nat} {r : R} {p : Nat} (h : RouteAt w b r p) (hb : Below w.heap.size w w') : RouteAt w' b r p := by
  obtain ⟨h1, h2, h3, h4, h5, h6, h7, h8, h9⟩ := h
  refine ⟨Nat.lt_of_lt_of_le h1 hb.size, (hb.cell (p := ⟨b, 44, none⟩) h1).trans h2, (hb.cell (p := ⟨b, 48, none⟩) h1).trans h3, (hb.cell (p := ⟨b, 52, none⟩) h1).trans h4, ?_, (hb.cell (p := ⟨b, 45, none⟩) h1).trans h6, (hb.cell (p := ⟨b, 53, none⟩) h1).trans h7, (hb.cell (p := ⟨b, 36, none⟩) h1).trans h8, fun j => (hb.frozen (p := ⟨b, j, none⟩) h1).trans (h9 j)⟩
  rcases r with ⟨_, _, _, _, _ | ⟨c, g, t⟩⟩
  · exact (hb.cell (p := ⟨b, 39, none⟩) h1).trans h5
  · obtain ⟨k1, k2, k3, k4, k5⟩ := h5
    exact ⟨Nat.lt_of_lt_of_le k1 hb.size, (hb.cell (p := ⟨b, 39, none⟩) h1).trans k2, (hb.cell (p := ⟨c, 0, none⟩) k1).trans k3, (hb.cell (p := ⟨c, 1, none⟩) k1).trans k4, (hb.cell (p := ⟨c, 2, none⟩) k1).trans k5⟩
theorem Routes.later {w w' : World} {n : Nat} {bs : Nat → Nat} {rs : Nat → R} (h : Routes w n bs rs) (hb : Below w.heap.size w w') : Routes w' n bs rs := fun i hi => ⟨(h i hi).1.later hb, (h i hi).2⟩
/-- The address of a route, or nil. -/
def pp (bs : Nat → Nat) (x : Option Nat) : Option Addr := x.map fun i => ⟨bs i, 0, none⟩
def In (n : Nat) (x : Option Nat) : Prop := ∀ i, x = some i → i < n
def earl (rf : Bool) (rs : Nat → R) : Option Nat → Option Nat → Option Nat
  | none, b => b
  | some i, none => some i
  | some i, some j => if bef rf (rs j) (rs i) then some j else some i
def late (rf : Bool) (rs : Nat → R) : Option Nat → Option Nat → Option Nat
  | none, b => b
  | some i, none => some i
  | some i, some j => if bef rf (rs i) (rs j) then some j else some i
theorem In.earl {n : Nat} {rf : Bool} {rs : Nat → R} {a b : Option Nat} (ha : In n a) (hb : In n b) : In n (earl rf rs a b) := by
  rcases a with _ | i <;> rcases b with _ | j <;> simp only [Ybulkcnwo.earl]
  · exact ha
  · exact hb
  · exact ha
  · split <;> assumption
theorem In.late {n : Nat} {rf : Bool} {rs : Nat → R} {a b : Option Nat} (ha : In n a) (hb : In n b) : In n (late rf rs a b) := by
  rcases a with _ | i <;> rcases b with _ | j <;> simp only [Ybulkcnwo.late]
  · exact ha
  · exact hb
  · exact ha
  · split <;> assumption
theorem neq_nil37 (w : World) (p : Option Addr) : (binOp .neq 37 (.pointer p) (.pointer none)).run Yba.prog w = .ok (.bool (!p.isNone)) w := by
  cases p <;> simp [go_sem, Yba.underlying37]
set_option maxHeartbeats 400000 in
theorem earlier_any (w : World) (n : Nat) (bs : Nat → Nat) (rs : Nat → R) (a b : Option Nat) (rf : Bool) (hr : Routes w n bs rs) (ha : In n a) (hb : In n b) :
    Calls Yba.prog 24 #[.pointer (pp bs a), .pointer (pp bs b), .bool rf] w fun e w' => e = .returned (.pointer (pp bs (earl rf rs a b))) ∧ Below w.heap.size w w' := by
  rcases a with _ | i
  · simp only [pp, Option.map_none, earl]
    clear ha hb hr
    go_enter Yba.func24, Yba.ntmps24
    go_wp2_with fail
    go_ret
    exact ⟨rfl, Below.refl _ _⟩
  · rcases b with _ | j
    · simp only [pp, Option.map_none, Option.map_some, earl]
      clear ha hb hr
      go_enter Yba.func24, Yba.ntmps24
      go_wp2_with fail
      go_ret
      exact ⟨rfl, Below.refl _ _⟩
    · have hi := hr i (ha i rfl)
      have hj := hr j (hb j rfl)
      simp only [pp, Option.map_some, earl]
      clear ha hb hr
      have H := hide (before_any w (bs j) (bs i) (rs j) (rs i) j i hj.1 hi.1 hj.2 hi.2 rf)
      clear hi hj
      cases hbf : bef rf (rs j) (rs i)
      all_goals
        rw [hbf] at H
        clear hbf
        go_enter Yba.func24, Yba.ntmps24
        go_wp2_with (go_at_call 10; go_must (refine H.out.mono ?_); rintro _ w1 ⟨rfl, hb1⟩)
        go_ret
        exact ⟨rfl, hb1⟩
set_option maxHeartbeats 400000 in
theorem later_any (w : World) (n : Nat) (bs : Nat → Nat) (rs : Nat → R) (a b : Option Nat) (rf : Bool) (hr : Routes w n bs rs) (ha : In n a) (hb : In n b) :
    Calls Yba.prog 25 #[.pointer (pp bs a), .pointer (pp bs b), .bool rf] w fun e w' => e = .returned (.pointer (pp bs (late rf rs a b))) ∧ Below w.heap.size w w' := by
  rcases a with _ | i
  · simp only [pp, Option.map_none, late]
    clear ha hb hr
    go_enter Yba.func25, Yba.ntmps25
    go_wp2_with fail
    go_ret
    exact ⟨rfl, Below.refl _ _⟩
  · rcases b with _ | j
    · simp only [pp, Option.map_none, Option.map_some, late]
      clear ha hb hr
      go_enter Yba.func25, Yba.ntmps25
      go_wp2_with fail
      go_ret
      exact ⟨rfl, Below.refl _ _⟩
    · have hi := hr i (ha i rfl)
      have hj := hr j (hb j rfl)
      simp only [pp, Option.map_some, late]
      clear ha hb hr
      have H := hide (before_any w (bs i) (bs j) (rs i) (rs j) i j hi.1 hj.1 hi.2 hj.2 rf)
      clear hi hj
      cases hbf : bef rf (rs i) (rs j)
      all_goals
        rw [hbf] at H
        clear hbf
        go_enter Yba.func25, Yba.ntmps25
        go_wp2_with (go_at_call 10; go_must (refine H.out.mono ?_); rintro _ w1 ⟨rfl, hb1⟩)
        go_ret
        exact ⟨rfl, hb1⟩
end Go.Proofs.Ybulkcnwo
