import Derived.Test.YbulkcnwoCount2
namespace Go.Proofs.Ybulkcnwo
open Go.RowKit
set_option maxHeartbeats 1000000 in
theorem name_any (x : Int) (w : World) (h0 : 0 ≤ x) (h1 : x ≤ 255) : Calls Yba.prog 5 #[.int .u8 x] w fun e w' => e = .returned (.string (nm ((x % 12).toNat + 1))) ∧ w' = w := by
  rcases (show x % 12 = 0 ∨ x % 12 = 1 ∨ x % 12 = 2 ∨ x % 12 = 3 ∨ x % 12 = 4 ∨ x % 12 = 5 ∨ x % 12 = 6 ∨ x % 12 = 7 ∨ x % 12 = 8 ∨ x % 12 = 9 ∨ x % 12 = 10 ∨ x % 12 = 11 by omega) with h | h | h | h | h | h | h | h | h | h | h | h
  all_goals
    rw [h]
    go_enter Yba.func5, Yba.ntmps5
    go_wp2
    go_ret
    exact ⟨rfl, rfl⟩
theorem pp_congr {n : Nat} {bs bs' : Nat → Nat} {x : Option Nat} (hx : In n x) (h : ∀ i, i < n → bs' i = bs i) : pp bs' x = pp bs x := by
  cases x with
  | none => rfl
  | some i => simp only [pp, Option.map_some, h i (hx i rfl)]
theorem Spans.congr {w : World} {g m n : Nat} {bs bs' : Nat → Nat} {sp : Nat → Sp} (h : Spans w g m bs sp) (hin : ∀ k, k < m → (sp k).In n) (hb : ∀ i, i < n → bs' i = bs i) : Spans w g m bs' sp := by
  refine ⟨h.1, h.2.1, fun i hi => ?_⟩
  obtain ⟨a, b, c⟩ := hin i hi
  rw [pp_congr a hb, pp_congr b hb, pp_congr c hb]
  exact h.2.2 i hi
theorem earl_congr {rf : Bool} {rs rs' : Nat → R} {a b : Option Nat} (ha : ∀ i, a = some i → rs' i = rs i) (hb : ∀ i, b = some i → rs' i = rs i) : earl rf rs' a b = earl rf rs a b := by
  cases a <;> cases b <;> simp only [earl]
  rw [ha _ rfl, hb _ rfl]
theorem late_congr {rf : Bool} {rs rs' : Nat → R} {a b : Option Nat} (ha : ∀ i, a = some i → rs' i = rs i) (hb : ∀ i, b = some i → rs' i = rs i) : late rf rs' a b = late rf rs a b := by
  cases a <;> cases b <;> simp only [late]
  rw [ha _ rfl, hb _ rfl]
/-- i is one of the routes that a span notes. -/
def Sp.has (s : Sp) (i : Nat) : Prop := s.lead = some i ∨ s.first = some i ∨ s.last = some i
theorem joinS_congr {rf : Bool} {rs rs' : Nat → R} {s t : Sp} (hs : ∀ i, s.has i → rs' i = rs i) (ht : ∀ i, t.has i → rs' i = rs i) : joinS rf rs' s t = joinS rf rs s t := by
  simp only [joinS]
  rw [earl_congr (fun i h => hs i (.inl h)) (fun i h => ht i (.inl h)), earl_congr (fun i h => hs i (.inr (.inl h))) (fun i h => ht i (.inr (.inl h))), late_congr (fun i h => hs i (.inr (.inr h))) (fun i h => ht i (.inr (.inr h)))]
theorem Sp.In.has {n : Nat} {s : Sp} (h : s.In n) {i : Nat} (hi : s.has i) : i < n := by
  rcases hi with hi | hi | hi
  · exact h.1 i hi
  · exact h.2.1 i hi
  · exact h.2.2 i hi
theorem earl_mem {rf : Bool} {rs : Nat → R} {a b : Option Nat} {i : Nat} (h : earl rf rs a b = some i) : a = some i ∨ b = some i := by
  cases a <;> cases b <;> simp only [earl] at h
  · exact .inl h
  · exact .inr h
  · exact .inl h
  · split at h
    · exact .inr h
    · exact .inl h
theorem late_mem {rf : Bool} {rs : Nat → R} {a b : Option Nat} {i : Nat} (h : late rf rs a b = some i) : a = some i ∨ b = some i := by
  cases a <;> cases b <;> simp only [late] at h
  · exact .inl h
  · exact .inr h
  · exact .inl h
  · split at h
    · exact .inr h
    · exact .inl h
theorem joinS_has {rf : Bool} {rs : Nat → R} {s t : Sp} {i : Nat} (h : (joinS rf rs s t).has i) : s.has i ∨ t.has i := by
  rcases h with h | h | h
  · exact (earl_mem h).imp .inl .inl
  · exact (earl_mem h).imp (fun h => .inr (.inl h)) (fun h => .inr (.inl h))
  · exact (late_mem h).imp (fun h => .inr (.inr h)) (fun h => .inr (.inr h))
theorem leafS_has {n : Nat} {rs : Nat → R} {m i : Nat} (h : (leafS n rs m).has i) : i = m := by
  unfold leafS Sp.has at h
  split at h
  · split at h <;> simp at h <;> omega
  · simp at h
theorem anc_parent {i k : Nat} (h : Anc i k) : Anc i (k / 2) := by
  obtain ⟨e, rfl⟩ := h
  exact ⟨e + 1, by rw [Nat.pow_succ, Nat.div_div_eq_div_mul]⟩
/-- A span notes only routes under it. -/
theorem Tree.sup {rf : Bool} {n size : Nat} {rs : Nat → R} {sp : Nat → Sp} (h : Tree rf n size rs sp) : ∀ d k, 0 < k → k < 2 * size → 2 * size - k ≤ d → ∀ i, (sp k).has i → Anc (size + i) k
  | 0, k, _, h2, h3, _, _ => by omega
  | d + 1, k, h1, h2, h3, i, hi => by
    by_cases hk : size ≤ k
    · rw [h.1 k hk h2] at hi
      have := leafS_has hi
      rw [show size + i = k by omega]; exact anc_self k
    · rw [h.2 k h1 (by omega)] at hi
      rcases joinS_has hi with hi | hi
      · have := anc_parent (Tree.sup h d (2 * k) (by omega) (by omega) (by omega) i hi)
        rwa [show 2 * k / 2 = k by omega] at this
      · have := anc_parent (Tree.sup h d (2 * k + 1) (by omega) (by omega) (by omega) i hi)
        rwa [show (2 * k + 1) / 2 = k by omega] at this
theorem leafS_other {n : Nat} {rs : Nat → R} {r : R} {m j : Nat} (h : m ≠ j) : leafS n (upd rs j r) m = leafS n rs m := by
  unfold leafS; rw [upd_other _ _ h]
theorem leafS_more {n : Nat} {rs : Nat → R} {r : R} {m : Nat} (h : m ≠ n) : leafS (n + 1) (upd rs n r) m = leafS n rs m := by
  unfold leafS
  rw [upd_other _ _ h]
  by_cases h1 : m < n
  · rw [if_pos h1, if_pos (by omega)]
  · rw [if_neg h1, if_neg (by omega)]
/-- The tree where one route's data have turned. -/
theorem Tree.turned {rf : Bool} {n size : Nat} {rs : Nat → R} {sp : Nat → Sp} (h : Tree rf n size rs sp) (j : Nat) (r : R) :
    (∀ k, size ≤ k → k < 2 * size → k ≠ size + j → sp k = leafS n (upd rs j r) (k - size)) ∧ ∀ k, 0 < k → k < size → ¬ Anc (size + j) k → sp k = joinS rf (upd rs j r) (sp (2 * k)) (sp (2 * k + 1)) := by
  refine ⟨fun k k1 k2 k3 => by rw [leafS_other (by omega)]; exact h.1 k k1 k2, fun k k1 k2 k3 => ?_⟩
  rw [joinS_congr]
  · exact h.2 k k1 k2
  · intro i hi
    refine upd_other _ _ (fun e => k3 ?_)
    subst e
    have := anc_parent (h.sup (2 * size) (2 * k) (by omega) (by omega) (by omega) i hi)
    rwa [show 2 * k / 2 = k by omega] at this
  · intro i hi
    refine upd_other _ _ (fun e => k3 ?_)
    subst e
    have := anc_parent (h.sup (2 * size) (2 * k + 1) (by omega) (by omega) (by omega) i hi)
    rwa [show (2 * k + 1) / 2 = k by omega] at this
/-- .. where one more route comes. -/
theorem Tree.more {rf : Bool} {n size : Nat} {rs : Nat → R} {sp : Nat → Sp} (h : Tree rf n size rs sp) (hin : ∀ k, k < 2 * size → (sp k).In n) (r : R) :
    (∀ k, size ≤ k → k < 2 * size → k ≠ size + n → sp k = leafS (n + 1) (upd rs n r) (k - size)) ∧ ∀ k, 0 < k → k < size → ¬ Anc (size + n) k → sp k = joinS rf (upd rs n r) (sp (2 * k)) (sp (2 * k + 1)) := by
  refine ⟨fun k k1 k2 k3 => by rw [leafS_more (by omega)]; exact h.1 k k1 k2, fun k k1 k2 _ => ?_⟩
  rw [joinS_congr]
  · exact h.2 k k1 k2
  · exact fun i hi => upd_other _ _ (by have := (hin (2 * k) (by omega)).has hi; omega)
  · exact fun i hi => upd_other _ _ (by have := (hin (2 * k + 1) (by omega)).has hi; omega)
theorem In.mono {n n' : Nat} {x : Option Nat} (h : In n x) (hn : n ≤ n') : In n' x := fun i hi => Nat.lt_of_lt_of_le (h i hi) hn
theorem Sp.In.mono {n n' : Nat} {s : Sp} (h : s.In n) (hn : n ≤ n') : s.In n' := ⟨h.1.mono hn, h.2.1.mono hn, h.2.2.mono hn⟩
end Go.Proofs.Ybulkcnwo
