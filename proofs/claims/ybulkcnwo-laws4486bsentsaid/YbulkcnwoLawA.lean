import Derived.Test.YbulkcnwoLine
namespace Go.Proofs.Ybulkcnwo
open Go.RowKit
structure Spc where
  peer : Int
  parked : Bool
  reach : Int
  best : Int
  hasb : Bool
  gen : Int
  root : Int
/-- Spec k of the argument. -/
def SpecAt (w : World) (a : Option Addr) (k : Nat) (s : Spc) : Prop :=
  ∃ sb so : Nat, a = some ⟨sb, so, none⟩ ∧ sb < w.heap.size ∧ 0 ≤ s.peer ∧ s.peer ≤ 255 ∧ -128 ≤ s.reach ∧ s.reach ≤ 127 ∧ -128 ≤ s.best ∧ s.best ≤ 127 ∧ 0 ≤ s.gen ∧ s.gen ≤ 255 ∧ -128 ≤ s.root ∧ s.root ≤ 127 ∧
    w.cell? ⟨sb, so + k * 7, none⟩ = some (.int .u8 s.peer) ∧ w.cell? ⟨sb, so + k * 7 + 1, none⟩ = some (.bool s.parked) ∧ w.cell? ⟨sb, so + k * 7 + 2, none⟩ = some (.int .i8 s.reach) ∧ w.cell? ⟨sb, so + k * 7 + 3, none⟩ = some (.int .i8 s.best) ∧
    w.cell? ⟨sb, so + k * 7 + 4, none⟩ = some (.bool s.hasb) ∧ w.cell? ⟨sb, so + k * 7 + 5, none⟩ = some (.int .u8 s.gen) ∧ w.cell? ⟨sb, so + k * 7 + 6, none⟩ = some (.int .i8 s.root)
structure Mov where
  pick : Int
  peer : Int
  reach : Int
def MoveAt (w : World) (a : Option Addr) (k : Nat) (s : Mov) : Prop :=
  ∃ sb so : Nat, a = some ⟨sb, so, none⟩ ∧ sb < w.heap.size ∧ 0 ≤ s.pick ∧ s.pick ≤ 65535 ∧ 0 ≤ s.peer ∧ s.peer ≤ 255 ∧ -128 ≤ s.reach ∧ s.reach ≤ 127 ∧
    w.cell? ⟨sb, so + k * 3, none⟩ = some (.int .u16 s.pick) ∧ w.cell? ⟨sb, so + k * 3 + 1, none⟩ = some (.int .u8 s.peer) ∧ w.cell? ⟨sb, so + k * 3 + 2, none⟩ = some (.int .i8 s.reach)
/-- How many of the first k routes are at p. -/
def cntOf (rs : Nat → R) : Nat → Nat → Nat
  | 0, _ => 0
  | k + 1, p => cntOf rs k p + if (rs k).at' = p then 1 else 0
theorem cntOf_le (rs : Nat → R) : ∀ k p, cntOf rs k p ≤ k
  | 0, _ => Nat.le_refl _
  | k + 1, p => by have := cntOf_le rs k p; simp only [cntOf]; split <;> omega
theorem cntOf_upd (rs : Nat → R) (j : Nat) (r : R) : ∀ k p, k ≤ j → cntOf (upd rs j r) k p = cntOf rs k p
  | 0, _, _ => rfl
  | k + 1, p, h => by simp only [cntOf]; rw [cntOf_upd rs j r k p (by omega), upd_other _ _ (by omega)]
theorem cntOf_more (rs : Nat → R) (k : Nat) (r : R) (p : Nat) : cntOf (upd rs k r) (k + 1) p = upd (cntOf rs k) r.at' (cntOf rs k r.at' + 1) p := by
  simp only [cntOf]
  rw [cntOf_upd rs k r k p (Nat.le_refl _), upd_same]
  by_cases e : r.at' = p
  · subst e; rw [upd_same, if_pos rfl]
  · rw [upd_other _ _ (Ne.symm e), if_neg e]; rfl
def Inj (B k : Nat) (bs : Nat → Nat) : Prop := (∀ i j, i < k → j < k → i ≠ j → bs i ≠ bs j) ∧ ∀ i, i < k → B ≤ bs i
/-- The state while the line is built. -/
def St (w : World) (B L gs n k : Nat) (bs : Nat → Nat) (rs : Nat → R) (rf : Bool) : Prop :=
  Ty w gs 37 ∧ B ≤ gs ∧ (∀ j, w.frozen? ⟨gs, j, none⟩ = false) ∧ (∀ j, j < n → (w.cell? ⟨gs, j, none⟩).isSome = true) ∧ (∀ j, j < k → w.cell? ⟨gs, j, none⟩ = some (.pointer (some ⟨bs j, 0, none⟩))) ∧ Inj B k bs ∧
    ((k = 0 ∧ L0 w L rf) ∨ (0 < k ∧ ∃ gR cnt t, LI w B L k bs rs rf cnt t gR ∧ gR ≠ gs ∧ t ≤ 10 * k ∧ ∀ p, cnt p = cntOf rs k p))
theorem make25 (w : World) (m : Nat) (hm : m ≤ 100000) : (Instr.makeSlice 25 (.int .i64 (m : Int)) (.int .i64 (m : Int))).run Yba.prog w = .ok (.slice (some ⟨w.heap.size, 0, none⟩) m m) (w.alloc (.cells (madeCells #[.pointer none] m) 37)) := by
  obtain ⟨i0, hi, hz0, hz1, hz2⟩ := info_parts info37
  have := run_make w 25 37 i0 _ Yba.underlying25 hi hz0 .i64 .i64 (m : Int) (m : Int) (by omega) (by omega) (by rw [hz2]; omega) (by omega)
  rw [hz1] at this
  simpa [Value.cells] using this
/-- A new route's block, behind a letter. -/
theorem gen_route {P : Program} {C : Code} {Q : Exit → Act → World → Prop} {a : Act} {w : World} {A : Array Value} (b : Nat) (hb : b = w.heap.size) (reach best : Int) (parked : Bool) (h44 : A[44]? = some (fl best)) (h48 : A[48]? = some (fl reach)) (h52 : A[52]? = some (.bool parked)) (h39 : A[39]? = some (.pointer none)) (h45 : A[45]? = some (.string (nm 0))) (h53 : A[53]? = some (.int .i64 0)) (h36 : A[36]? = some (.string ⟨#[120]⟩))
    (h : ∀ W2 : World, RouteAt W2 b ⟨reach, best, parked, 0, none⟩ 0 → Ty W2 b 51 → Below w.heap.size w W2 → W2.heap.size = w.heap.size + 1 → C.wp P Q a W2) : C.wp P Q a (w.alloc (.cells A 51)) := by
  have hbk : (w.alloc (.cells A 51)).heap[b]? = some (.cells A 51 (0, 0)) := by rw [hb]; exact new_block
  have hc : ∀ j, (w.alloc (.cells A 51)).cell? ⟨b, j, none⟩ = A[j]? := fun j => by simp [World.cell?, hbk]
  exact h _ ⟨by rw [hb]; simp, (hc 44).trans h44, (hc 48).trans h48, (hc 52).trans h52, (hc 39).trans h39, (hc 45).trans h45, (hc 53).trans h53, (hc 36).trans h36, fun j => by simp only [World.frozen?, hbk]; simp⟩ ⟨_, _, hbk⟩ ((Below.refl _ _).alloc (Nat.le_refl _) _) (by simp)
theorem RouteAt.setAt {w : World} {b : Nat} {r : R} {p : Nat} (q : Nat) (h : RouteAt w b r p) : RouteAt (w.setCell ⟨b, 45, none⟩ (.string (nm q))) b { r with at' := q } p := by
  obtain ⟨h1, h2, h3, h4, h5, h6, h7, h8, h9⟩ := h
  have hne : ∀ o, o ≠ 45 → (⟨b, 45, none⟩ : Addr) ≠ ⟨b, o, none⟩ := fun o ho e => by injection e with _ e _; exact ho e.symm
  refine ⟨by simpa [World.setCell] using h1, by rw [World.cell?_setCell_other _ _ _ _ (hne 44 (by decide))]; exact h2, by rw [World.cell?_setCell_other _ _ _ _ (hne 48 (by decide))]; exact h3, by rw [World.cell?_setCell_other _ _ _ _ (hne 52 (by decide))]; exact h4, ?_, World.cell?_setCell_same _ _ _ h6, by rw [World.cell?_setCell_other _ _ _ _ (hne 53 (by decide))]; exact h7, by rw [World.cell?_setCell_other _ _ _ _ (hne 36 (by decide))]; exact h8, fun j => by rw [World.frozen?_setCell]; exact h9 j⟩
  rcases r with ⟨_, _, _, _, _ | ⟨c, g, t⟩⟩
  · show (w.setCell _ _).cell? _ = _
    rw [World.cell?_setCell_other _ _ _ _ (hne 39 (by decide))]; exact h5
  · obtain ⟨k1, k2, k3, k4, k5⟩ := h5
    have hc : ∀ o, o < 3 → (w.setCell ⟨b, 45, none⟩ (.string (nm q))).cell? ⟨c, o, none⟩ = w.cell? ⟨c, o, none⟩ := fun o ho => World.cell?_setCell_other _ _ _ _ (fun e => by injection e with _ e _; omega)
    exact ⟨by simpa [World.setCell] using k1, by rw [World.cell?_setCell_other _ _ _ _ (hne 39 (by decide))]; exact k2, by rw [hc 0 (by omega)]; exact k3, by rw [hc 1 (by omega)]; exact k4, by rw [hc 2 (by omega)]; exact k5⟩
theorem RouteAt.setReach {w : World} {b : Nat} {r : R} {p : Nat} (q : Int) (h : RouteAt w b r p) : RouteAt (w.setCell ⟨b, 48, none⟩ (fl q)) b { r with reach := q } p := by
  obtain ⟨h1, h2, h3, h4, h5, h6, h7, h8, h9⟩ := h
  have hne : ∀ o, o ≠ 48 → (⟨b, 48, none⟩ : Addr) ≠ ⟨b, o, none⟩ := fun o ho e => by injection e with _ e _; exact ho e.symm
  refine ⟨by simpa [World.setCell] using h1, by rw [World.cell?_setCell_other _ _ _ _ (hne 44 (by decide))]; exact h2, World.cell?_setCell_same _ _ _ h3, by rw [World.cell?_setCell_other _ _ _ _ (hne 52 (by decide))]; exact h4, ?_, by rw [World.cell?_setCell_other _ _ _ _ (hne 45 (by decide))]; exact h6, by rw [World.cell?_setCell_other _ _ _ _ (hne 53 (by decide))]; exact h7, by rw [World.cell?_setCell_other _ _ _ _ (hne 36 (by decide))]; exact h8, fun j => by rw [World.frozen?_setCell]; exact h9 j⟩
  rcases r with ⟨_, _, _, _, _ | ⟨c, g, t⟩⟩
  · show (w.setCell _ _).cell? _ = _
    rw [World.cell?_setCell_other _ _ _ _ (hne 39 (by decide))]; exact h5
  · obtain ⟨k1, k2, k3, k4, k5⟩ := h5
    have hc : ∀ o, o < 3 → (w.setCell ⟨b, 48, none⟩ (fl q)).cell? ⟨c, o, none⟩ = w.cell? ⟨c, o, none⟩ := fun o ho => World.cell?_setCell_other _ _ _ _ (fun e => by injection e with _ e _; omega)
    exact ⟨by simpa [World.setCell] using k1, by rw [World.cell?_setCell_other _ _ _ _ (hne 39 (by decide))]; exact k2, by rw [hc 0 (by omega)]; exact k3, by rw [hc 1 (by omega)]; exact k4, by rw [hc 2 (by omega)]; exact k5⟩
/-- A rank laid in a new block c and noted in the route. -/
theorem RouteAt.setBeat {w : World} {b : Nat} {r : R} {p : Nat} (g t : Int) (h : RouteAt w b r p) (hn : r.beat = none) : RouteAt ((w.setCell ⟨b, 39, none⟩ (.pointer (some ⟨w.heap.size, 0, none⟩))).alloc (.cells #[.int .u64 g, fl t, .float .f64 0] 54)) b { r with beat := some (w.heap.size, g, t) } p := by
  obtain ⟨h1, h2, h3, h4, h5, h6, h7, h8, h9⟩ := h
  have hz : (w.setCell ⟨b, 39, none⟩ (.pointer (some ⟨w.heap.size, 0, none⟩))).heap.size = w.heap.size := by simp [World.setCell]
  have hb : b < (w.setCell ⟨b, 39, none⟩ (.pointer (some ⟨w.heap.size, 0, none⟩))).heap.size := by rw [hz]; exact h1
  have h39 : w.cell? ⟨b, 39, none⟩ = some (.pointer none) := by rw [hn] at h5; exact h5
  have hc : ∀ o, o ≠ 39 → ((w.setCell ⟨b, 39, none⟩ (.pointer (some ⟨w.heap.size, 0, none⟩))).alloc (.cells #[.int .u64 g, fl t, .float .f64 0] 54)).cell? ⟨b, o, none⟩ = w.cell? ⟨b, o, none⟩ := fun o ho => by
    rw [World.cell?_alloc_lt _ _ _ hb, World.cell?_setCell_other _ _ _ _ (fun e => by injection e with _ e _; exact ho e.symm)]
  have hk : ((w.setCell ⟨b, 39, none⟩ (.pointer (some ⟨w.heap.size, 0, none⟩))).alloc (.cells #[.int .u64 g, fl t, .float .f64 0] 54)).heap[w.heap.size]? = some (.cells #[.int .u64 g, fl t, .float .f64 0] 54 (0, 0)) := by
    have := @new_block (w.setCell ⟨b, 39, none⟩ (.pointer (some ⟨w.heap.size, 0, none⟩))) (.cells #[.int .u64 g, fl t, .float .f64 0] 54)
    rwa [hz] at this
  obtain ⟨k1, k2, k3, -⟩ := blk3 hk
  refine ⟨by simp [World.setCell]; omega, (hc 44 (by decide)).trans h2, (hc 48 (by decide)).trans h3, (hc 52 (by decide)).trans h4, ⟨by simp [World.setCell], ?_, k1, k2, k3⟩, (hc 45 (by decide)).trans h6, (hc 53 (by decide)).trans h7, (hc 36 (by decide)).trans h8, fun j => ?_⟩
  · rw [World.cell?_alloc_lt _ _ _ hb, World.cell?_setCell_same _ _ _ h39]
  · rw [World.frozen?_alloc_past _ _ _ hb, World.frozen?_setCell]; exact h9 j
theorem store_float (w : World) (a : Addr) (b : Nat) : (store a (.float .f64 b)).run Yba.prog w = stored Yba.prog w a (.float .f64 b) .plain := run_store _ w a _ _ rfl
/-- The line and the state, where only new blocks came. -/
theorem St.below {w w' : World} {B L gs n k : Nat} {bs : Nat → Nat} {rs : Nat → R} {rf : Bool} (h : St w B L gs n k bs rs rf) (hb : Below w.heap.size w w') : St w' B L gs n k bs rs rf := by
  obtain ⟨h1, h2, h3, h4, h5, h6, h7⟩ := h
  have hl := h1.lt
  refine ⟨h1.below hb, h2, fun j => (hb.frozen (p := ⟨gs, j, none⟩) hl).trans (h3 j), fun j hj => by rw [hb.cell (p := ⟨gs, j, none⟩) hl]; exact h4 j hj, fun j hj => (hb.cell (p := ⟨gs, j, none⟩) hl).trans (h5 j hj), h6, ?_⟩
  have k0 := (Keep.refl (fun _ => False) w).below hb
  rcases h7 with ⟨e, h7⟩ | ⟨e, gR, cnt, t, ⟨capR, gS, size, ee, sp, few, many, par, hL, hrow, hR, hT, hBS, hS, hIn, hTr, hr⟩, h8⟩
  · exact .inl ⟨e, LineAt.keep h7 k0 id⟩
  · exact .inr ⟨e, gR, cnt, t, ⟨capR, gS, size, ee, sp, few, many, par, hL.keep k0 id, owns_keep hrow k0 (fun _ _ h => h), hR.keep hT k0 (fun _ _ h => h) (fun _ _ h => h), hT.keep k0 (fun _ _ h => h) (fun _ _ h => h), hBS, hS.keep k0 id, hIn, hTr, hr.1, hr.2.1, hr.2.2.1, hr.2.2.2.1.keep k0 (fun _ _ h => h) (fun _ _ h => h), hr.2.2.2.2⟩, h8⟩
end Go.Proofs.Ybulkcnwo
