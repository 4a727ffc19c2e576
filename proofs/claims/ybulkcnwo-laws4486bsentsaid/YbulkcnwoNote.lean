import Derived.Test.YbulkcnwoMem
namespace Go.Proofs.Ybulkcnwo
open Go.RowKit
structure Hdr where
  routes : Value
  held : Int
  parked : Int
  own : Int
  few : Value
  many : Value
  spans : Value
  rf : Bool
def Hdr.arr (h : Hdr) : Array Value := #[h.routes, .int .i64 h.held, .int .i64 h.parked, .int .i64 h.own, h.few, h.many, h.spans, .int .i64 0, .pointer none, .bool h.rf]
def LineAt (w : World) (L : Nat) (h : Hdr) : Prop := w.heap[L]? = some (.cells h.arr 33 (0, 0))
theorem LineAt.ty {w : World} {L : Nat} {h : Hdr} (k : LineAt w L h) : Ty w L 33 := ⟨_, _, k⟩
theorem LineAt.cell {w : World} {L : Nat} {h : Hdr} (k : LineAt w L h) (j : Nat) : w.cell? ⟨L, j, none⟩ = h.arr[j]? := by
  have k' : w.heap[L]? = some (.cells h.arr 33 (0, 0)) := k
  simp [World.cell?, k']
theorem LineAt.frozen {w : World} {L : Nat} {h : Hdr} (k : LineAt w L h) (j : Nat) : w.frozen? ⟨L, j, none⟩ = false := by
  have k' : w.heap[L]? = some (.cells h.arr 33 (0, 0)) := k
  simp only [World.frozen?, k']; simp
theorem LineAt.keep {S : Nat → Prop} {w w' : World} {L : Nat} {h : Hdr} (k : LineAt w L h) (hk : Keep S w w') (hs : ¬ S L) : LineAt w' L h := (hk.block L k.ty.lt hs).trans k
/-- What the leaf of place m holds. -/
def leafS (n : Nat) (rs : Nat → R) (m : Nat) : Sp := if m < n then (if (rs m).parked then ⟨none, some m, some m⟩ else ⟨some m, none, none⟩) else ⟨none, none, none⟩
theorem leafS_in (n : Nat) (rs : Nat → R) (m : Nat) : (leafS n rs m).In n := by
  unfold leafS Sp.In In
  split
  · split <;> simp_all
  · simp
/-- k is i, its half, that one's half .. -/
def Anc (i k : Nat) : Prop := ∃ e, i / 2 ^ e = k
def Tree (rf : Bool) (n size : Nat) (rs : Nat → R) (sp : Nat → Sp) : Prop :=
  (∀ k, size ≤ k → k < 2 * size → sp k = leafS n rs (k - size)) ∧ ∀ k, 0 < k → k < size → sp k = joinS rf rs (sp (2 * k)) (sp (2 * k + 1))
/-- The tree, but for the forebears of i. -/
def TreeBut (rf : Bool) (n size : Nat) (rs : Nat → R) (i : Nat) (sp : Nat → Sp) : Prop :=
  (∀ k, size ≤ k → k < 2 * size → sp k = leafS n rs (k - size)) ∧ ∀ k, 0 < k → k < size → ¬ Anc i k → sp k = joinS rf rs (sp (2 * k)) (sp (2 * k + 1))
theorem anc_self (i : Nat) : Anc i i := ⟨0, by simp⟩
theorem anc_half {i k : Nat} (h : Anc (i / 2) k) : Anc i k := by
  obtain ⟨e, rfl⟩ := h
  exact ⟨e + 1, by rw [Nat.pow_succ, Nat.mul_comm, Nat.div_div_eq_div_mul]⟩
theorem anc_up {i k : Nat} (h : Anc i k) (hne : k ≠ i) : Anc (i / 2) k := by
  obtain ⟨e, rfl⟩ := h
  cases e with
  | zero => simp at hne
  | succ e => exact ⟨e, by rw [Nat.pow_succ, Nat.mul_comm, ← Nat.div_div_eq_div_mul]⟩
theorem TreeBut.step {rf : Bool} {n size : Nat} {rs : Nat → R} {i : Nat} {sp : Nat → Sp} (h : TreeBut rf n size rs i sp) (h0 : 0 < i) (hi : i < size) :
    TreeBut rf n size rs (i / 2) (upd sp i (joinS rf rs (sp (2 * i)) (sp (2 * i + 1)))) := by
  refine ⟨fun k k1 k2 => by rw [upd_other _ _ (by omega)]; exact h.1 k k1 k2, fun k k0 k1 hk => ?_⟩
  by_cases hki : k = i
  · subst hki
    rw [upd_same, upd_other _ _ (by omega), upd_other _ _ (by omega)]
  · have hna : ¬ Anc i k := fun ha => hk (anc_up ha hki)
    have h2 : k ≠ i / 2 := fun e => hk (e ▸ anc_self _)
    rw [upd_other _ _ hki, upd_other _ _ (by omega), upd_other _ _ (by omega)]
    exact h.2 k k0 k1 hna
theorem TreeBut.done {rf : Bool} {n size : Nat} {rs : Nat → R} {sp : Nat → Sp} (h : TreeBut rf n size rs 0 sp) : Tree rf n size rs sp :=
  ⟨h.1, fun k k0 k1 => h.2 k k0 k1 (fun ⟨e, he⟩ => by simp at he; omega)⟩
/-- Types of the routes' blocks. -/
def RTy (w : World) (n : Nat) (bs : Nat → Nat) (rs : Nat → R) : Prop := ∀ i, i < n → Ty w (bs i) 51 ∧ ∀ c g t, (rs i).beat = some (c, g, t) → Ty w c 54
theorem RouteAt.keep {S : Nat → Prop} {w w' : World} {b : Nat} {r : R} {p : Nat} (h : RouteAt w b r p) (k : Keep S w w') (hs : ¬ S b) (hc : ∀ c g t, r.beat = some (c, g, t) → ¬ S c) : RouteAt w' b r p := by
  obtain ⟨h1, h2, h3, h4, h5, h6, h7, h8, h9⟩ := h
  refine ⟨Nat.lt_of_lt_of_le h1 k.size, (k.cell (p := ⟨b, 44, none⟩) h1 hs).trans h2, (k.cell (p := ⟨b, 48, none⟩) h1 hs).trans h3, (k.cell (p := ⟨b, 52, none⟩) h1 hs).trans h4, ?_, (k.cell (p := ⟨b, 45, none⟩) h1 hs).trans h6, (k.cell (p := ⟨b, 53, none⟩) h1 hs).trans h7, (k.cell (p := ⟨b, 36, none⟩) h1 hs).trans h8, fun j => (k.frozen (p := ⟨b, j, none⟩) h1 hs).trans (h9 j)⟩
  rcases r with ⟨_, _, _, _, _ | ⟨c, g, t⟩⟩
  · exact (k.cell (p := ⟨b, 39, none⟩) h1 hs).trans h5
  · obtain ⟨k1, k2, k3, k4, k5⟩ := h5
    have hc' := hc c g t rfl
    exact ⟨Nat.lt_of_lt_of_le k1 k.size, (k.cell (p := ⟨b, 39, none⟩) h1 hs).trans k2, (k.cell (p := ⟨c, 0, none⟩) k1 hc').trans k3, (k.cell (p := ⟨c, 1, none⟩) k1 hc').trans k4, (k.cell (p := ⟨c, 2, none⟩) k1 hc').trans k5⟩
theorem Routes.keep {S : Nat → Prop} {w w' : World} {n : Nat} {bs : Nat → Nat} {rs : Nat → R} (h : Routes w n bs rs) (ht : RTy w n bs rs) (k : Keep S w w') (hs : ∀ b, Ty w b 51 → ¬ S b) (hc : ∀ b, Ty w b 54 → ¬ S b) : Routes w' n bs rs :=
  fun i hi => ⟨(h i hi).1.keep k (hs _ (ht i hi).1) (fun c g t e => hc _ ((ht i hi).2 c g t e)), (h i hi).2⟩
theorem RTy.keep {S : Nat → Prop} {w w' : World} {n : Nat} {bs : Nat → Nat} {rs : Nat → R} (ht : RTy w n bs rs) (k : Keep S w w') (hs : ∀ b, Ty w b 51 → ¬ S b) (hc : ∀ b, Ty w b 54 → ¬ S b) : RTy w' n bs rs :=
  fun i hi => ⟨(ht i hi).1.keep k (hs _ (ht i hi).1), fun c g t e => ((ht i hi).2 c g t e).keep k (hc _ ((ht i hi).2 c g t e))⟩
/-- spanOf of the route at place m. -/
theorem span_of (w : World) (n : Nat) (bs : Nat → Nat) (rs : Nat → R) (m : Nat) (hm : m < n) (hr : Routes w n bs rs) :
    Calls Yba.prog 12 #[.pointer (some ⟨bs m, 0, none⟩)] w fun e w' => e = .returned (.agg #[.pointer (pp bs (leafS n rs m).lead), .pointer (pp bs (leafS n rs m).first), .pointer (pp bs (leafS n rs m).last)]) ∧ Below w.heap.size w w' := by
  obtain ⟨h, -⟩ := hr m hm
  obtain ⟨h1, h2, h3, h4, -⟩ := h
  unfold leafS
  rw [if_pos hm]
  cases hp : (rs m).parked
  · rw [hp] at h4
    refine (span_out w (bs m) h1 h4).mono fun e w' => ?_
    rintro ⟨rfl, rfl⟩
    exact ⟨rfl, (Below.refl _ _).alloc (Nat.le_refl _) _⟩
  · rw [hp] at h4
    refine (span_parked w (bs m) h1 h4).mono fun e w' => ?_
    rintro ⟨rfl, rfl⟩
    exact ⟨rfl, (Below.refl _ _).alloc (Nat.le_refl _) _⟩
/-- The world's state while the span of one place is made anew out of two others. -/
def SS (w : World) (gS m2 : Nat) (bs : Nat → Nat) (i2 i3 : Nat) (s2 s3 : Sp) (w' : World) : Prop := Keep (fun k => k = gS) w w' ∧ ∃ q, Spans w' gS m2 bs q ∧ q i2 = s2 ∧ q i3 = s3
set_option maxHeartbeats 1000000 in
theorem note_any (w : World) (L gR gS n capR size j : Nat) (bs : Nat → Nat) (rs : Nat → R) (sp : Nat → Sp) (held parked own : Int) (few many : Value) (rf : Bool)
    (hL : LineAt w L ⟨.slice (some ⟨gR, 0, none⟩) n capR, held, parked, own, few, many, .slice (some ⟨gS, 0, none⟩) (2 * size) (2 * size), rf⟩)
    (hgR : Ty w gR 37) (hrow : ∀ k, k < n → w.cell? ⟨gR, k, none⟩ = some (.pointer (some ⟨bs k, 0, none⟩)))
    (hR : Routes w n bs rs) (hT : RTy w n bs rs) (hS : Spans w gS (2 * size) bs sp) (hIn : ∀ k, k < 2 * size → (sp k).In n) (hj : j < n) (hn : n ≤ size) (hsz : size ≤ 4096)
    (hleaf : ∀ k, size ≤ k → k < 2 * size → k ≠ size + j → sp k = leafS n rs (k - size))
    (hcons : ∀ k, 0 < k → k < size → ¬ Anc (size + j) k → sp k = joinS rf rs (sp (2 * k)) (sp (2 * k + 1))) :
    Calls Yba.prog 15 #[.pointer (some ⟨L, 0, none⟩), .int .i64 j] w fun e w' => ∃ v, e = .returned v ∧ ∃ sp', Keep (fun k => k = gS) w w' ∧ Spans w' gS (2 * size) bs sp' ∧ (∀ k, k < 2 * size → (sp' k).In n) ∧ Tree rf n size rs sp' := by
  have l0 := hL.cell 0
  have l6 := hL.cell 6
  have l9 := hL.cell 9
  simp only [Hdr.arr] at l0 l6 l9
  have hLlt := hL.ty.lt
  have hLS : L ≠ gS := hL.ty.ne hS.1 (by decide)
  have hRS : gR ≠ gS := hgR.ne hS.1 (by decide)
  obtain ⟨m2, hm2⟩ : ∃ m2, m2 = 2 * size := ⟨_, rfl⟩
  rw [← hm2] at l6 hS hIn hleaf
  have hdiv : (m2 : Int).tdiv 2 = size := by rw [hm2, Int.tdiv_eq_ediv_of_nonneg (by omega)]; omega
  have HS := hide hS
  have HR := hide hR
  have HT := hide hT
  have HI := hide hIn
  have HLF := hide hleaf
  have HC := hide hcons
  have HM := hide hm2
  have HL := hide hL
  have HG := hide hgR
  have HRW := hide hrow
  rw [← HM.out]
  clear hS hR hT hIn hleaf hcons hm2 hL hgR hrow
  obtain ⟨i0, hi0⟩ : ∃ i0, i0 = size + j := ⟨_, rfl⟩
  have hi1 : (size : Int) + j = i0 := by omega
  have hi2 : i0 < m2 := by have := HM.out; omega
  have hi3 : (i0 : Int) < m2 := by omega
  have hj' : (j : Int) < n := by omega
  have HI0 := hide hi0
  clear hi0
  have hk : ∀ w' : World, Keep (fun k => k = gS) w w' → w'.cell? ⟨L, 0, none⟩ = some (.slice (some ⟨gR, 0, none⟩) n capR) ∧ w'.cell? ⟨L, 6, none⟩ = some (.slice (some ⟨gS, 0, none⟩) m2 m2) ∧ w'.cell? ⟨L, 9, none⟩ = some (.bool rf) ∧ w'.cell? ⟨gR, j, none⟩ = some (.pointer (some ⟨bs j, 0, none⟩)) := fun w' h =>
    ⟨(h.cell (p := ⟨L, 0, none⟩) hLlt hLS).trans l0, (h.cell (p := ⟨L, 6, none⟩) hLlt hLS).trans l6, (h.cell (p := ⟨L, 9, none⟩) hLlt hLS).trans l9, (h.cell (p := ⟨gR, j, none⟩) HG.out.lt hRS).trans (HRW.out j hj)⟩
  have HK := hide hk
  clear hk
  go_enter Yba.func15, Yba.ntmps15
  go_wp2_with fail
  have hA0 : Keep (fun k => k = gS) w w.drew := (Keep.refl _ _).drew
  have HR0 : Hid (Routes w.drew n bs rs) := HR.out.later (Below.refl _ _).drew
  have HS0 : Hid (Spans w.drew gS m2 bs sp) := HS.out.below (Below.refl _ _).drew
  clear l0 l6 l9
  have hk := HK.out
  go_region_held3 (fun w' => Keep (fun k => k = gS) w w')
    (first | exact hS1 | exact hA1 | exact hA0)
    (first | (go_at_call 12; refine (span_of _ n bs rs j hj HR0.out).mono ?_; rintro e w1 ⟨rfl, hb1⟩; have hA1 : Keep (fun k => k = gS) w w1 := hA0.below hb1; have HS1 : Hid (Spans w1 gS m2 bs sp) := HS0.out.below hb1; clear hb1; obtain ⟨z0, z1, z2⟩ := HS1.out.2.2 i0 hi2; have y0 := HS1.out.2.1 (i0 * 3); have y1 := HS1.out.2.1 (i0 * 3 + 1); have y2 := HS1.out.2.1 (i0 * 3 + 2); have hS1 : Keep (fun k => k = gS) w (((w1.setCell ⟨gS, i0 * 3, none⟩ (.pointer (pp bs (leafS n rs j).lead))).setCell ⟨gS, i0 * 3 + 1, none⟩ (.pointer (pp bs (leafS n rs j).first))).setCell ⟨gS, i0 * 3 + 2, none⟩ (.pointer (pp bs (leafS n rs j).last))) := ((hA1.setCell (.inl rfl) _).setCell (.inl rfl) _).setCell (.inl rfl) _))
  have HSP := hide (HS1.out.store i0 hi2 (leafS n rs j))
  clear hA0 hA1 hk z0 z1 z2 y0 y1 y2 HS0 HR0
  generalize ((w1.setCell ⟨gS, i0 * 3, none⟩ (.pointer (pp bs (leafS n rs j).lead))).setCell ⟨gS, i0 * 3 + 1, none⟩ (.pointer (pp bs (leafS n rs j).first))).setCell ⟨gS, i0 * 3 + 2, none⟩ (.pointer (pp bs (leafS n rs j).last)) = W2 at hS1 HSP ⊢
  clear HS1
  obtain ⟨i1, hi4⟩ : ∃ i1, i1 = i0 / 2 := ⟨_, rfl⟩
  have hi5 : (i0 : Int).tdiv 2 = i1 := by rw [Int.tdiv_eq_ediv_of_nonneg (by omega)]; omega
  have HI1 := hide hi4
  clear hi4
  have HIN : Hid (∀ k, k < m2 → (upd sp i0 (leafS n rs j) k).In n) := fun k hk => by
    unfold upd; split
    · exact leafS_in n rs j
    · exact HI.out k hk
  have HTB : Hid (TreeBut rf n size rs i1 (upd sp i0 (leafS n rs j))) := by
    have e0 := HI0.out
    have e1 := HI1.out
    have e2 := HM.out
    refine ⟨fun k k1 k2 => ?_, fun k k0 k1 hk => ?_⟩
    · by_cases hki : k = i0
      · subst hki; rw [upd_same]; congr 1; omega
      · rw [upd_other _ _ hki]; exact HLF.out k k1 (by omega) (by omega)
    · have h2 : k ≠ i1 := fun e => hk (e ▸ anc_self _)
      rw [upd_other _ _ (by omega), upd_other _ _ (by omega), upd_other _ _ (by omega)]
      refine HC.out k k0 k1 (fun ha => hk ?_)
      rw [← e0] at ha
      rw [e1]
      exact anc_up ha (by omega)
  have hi6 : i1 < size := by have := HI0.out; have := HI1.out; omega
  go_wp2_with fail
  go_loopw [4] (fun v wr => ∃ (i : Nat) (q : Nat → Sp), v = .int .i64 i ∧ i < size ∧ Keep (fun k => k = gS) w wr ∧ Hid (Spans wr gS m2 bs q) ∧ Hid (∀ k, k < m2 → (q k).In n) ∧ Hid (TreeBut rf n size rs i q)) (fun v _ => (intOf v).toNat)
  case atStart => exact ⟨i1, _, rfl, hi6, hS1, HSP, HIN, HTB⟩
  case round =>
    clear hS1 HSP HIN HTB hi1 hi2 hi3 hi5 hi6 HI0 HI1
    obtain ⟨i, q, rfl, hi, hK, HSQ, HIQ, HTQ⟩ := hrel
    by_cases h0 : 0 < i
    · obtain ⟨i2, hi2⟩ : ∃ i2, i2 = 2 * i := ⟨_, rfl⟩
      obtain ⟨i3, hi3⟩ : ∃ i3, i3 = 2 * i + 1 := ⟨_, rfl⟩
      have e2 := HM.out
      have b2 : i2 < m2 := by omega
      have b3 : i3 < m2 := by omega
      have b1 : i < m2 := by omega
      have g2 : (2 : Int) * i = i2 := by omega
      have g3 : (i2 : Int) + 1 = i3 := by omega
      have hm3 : (m2 : Int) ≤ 8192 := by omega
      have w2 : IntKind.i64.wrap (i2 : Int) = i2 := by rw [IntKind.wrap_i64]; omega
      have w3 : IntKind.i64.wrap (i3 : Int) = i3 := by rw [IntKind.wrap_i64]; omega
      have c2 : (i2 : Int) < m2 := by omega
      have c3 : (i3 : Int) < m2 := by omega
      have c1 : (i : Int) < m2 := by omega
      have n2 : i2 ≠ i := by omega
      have n3 : i3 ≠ i := by omega
      have E2 := hide hi2
      have E3 := hide hi3
      clear hi2 hi3 e2
      obtain ⟨i4, hi4⟩ : ∃ i4, i4 = i / 2 := ⟨_, rfl⟩
      have hi5 : (i : Int).tdiv 2 = i4 := by rw [Int.tdiv_eq_ediv_of_nonneg (by omega)]; omega
      have E4 := hide hi4
      have b4 : i4 < i := by omega
      clear hi4
      have hk : ∀ w' : World, SS w gS m2 bs i2 i3 (q i2) (q i3) w' → w'.cell? ⟨L, 6, none⟩ = some (.slice (some ⟨gS, 0, none⟩) m2 m2) ∧ w'.cell? ⟨L, 9, none⟩ = some (.bool rf) ∧ w'.cell? ⟨gS, i2 * 3, none⟩ = some (.pointer (pp bs (q i2).lead)) ∧ w'.cell? ⟨gS, i2 * 3 + 1, none⟩ = some (.pointer (pp bs (q i2).first)) ∧ w'.cell? ⟨gS, i2 * 3 + 2, none⟩ = some (.pointer (pp bs (q i2).last)) ∧ w'.cell? ⟨gS, i3 * 3, none⟩ = some (.pointer (pp bs (q i3).lead)) ∧ w'.cell? ⟨gS, i3 * 3 + 1, none⟩ = some (.pointer (pp bs (q i3).first)) ∧ w'.cell? ⟨gS, i3 * 3 + 2, none⟩ = some (.pointer (pp bs (q i3).last)) := fun w' h => by
        obtain ⟨hk1, qq, hs, q2, q3⟩ := h
        obtain ⟨x0, x1, x2⟩ := hs.2.2 i2 b2
        obtain ⟨x3, x4, x5⟩ := hs.2.2 i3 b3
        rw [q2] at x0 x1 x2
        rw [q3] at x3 x4 x5
        exact ⟨(HK.out w' hk1).2.1, (HK.out w' hk1).2.2.1, x0, x1, x2, x3, x4, x5⟩
      have HR0 : Hid (Routes wr.drew n bs rs) := HR.out.keep HT.out hK.drew (fun b hb e => (hb.ne HS.out.1 (by decide)) e) (fun b hb e => (hb.ne HS.out.1 (by decide)) e)
      have HS0 : Hid (Spans wr.drew gS m2 bs q) := HSQ.out.below (Below.refl _ _).drew
      have hA0 : SS w gS m2 bs i2 i3 (q i2) (q i3) wr.drew := ⟨hK.drew, q, HS0.out, rfl, rfl⟩
      go_wp2_with fail
      go_region_held3 (SS w gS m2 bs i2 i3 (q i2) (q i3))
        (first | exact hS1 | exact hA1 | exact hA0)
        (first | (go_at_call 18; refine (join_any _ n bs rs (q i2) (q i3) rf HR0.out (HIQ.out i2 b2) (HIQ.out i3 b3)).mono ?_; rintro e w1 ⟨rfl, hb1⟩; have HS1 : Hid (Spans w1 gS m2 bs q) := HS0.out.below hb1; have hA1 : SS w gS m2 bs i2 i3 (q i2) (q i3) w1 := ⟨hA0.1.below hb1, q, HS1.out, rfl, rfl⟩; clear hb1; obtain ⟨z0, z1, z2⟩ := HS1.out.2.2 i b1; have y0 := HS1.out.2.1 (i * 3); have y1 := HS1.out.2.1 (i * 3 + 1); have y2 := HS1.out.2.1 (i * 3 + 2); have hS1 : SS w gS m2 bs i2 i3 (q i2) (q i3) (((w1.setCell ⟨gS, i * 3, none⟩ (.pointer (pp bs (joinS rf rs (q i2) (q i3)).lead))).setCell ⟨gS, i * 3 + 1, none⟩ (.pointer (pp bs (joinS rf rs (q i2) (q i3)).first))).setCell ⟨gS, i * 3 + 2, none⟩ (.pointer (pp bs (joinS rf rs (q i2) (q i3)).last))) := ⟨((hA1.1.setCell (.inl rfl) _).setCell (.inl rfl) _).setCell (.inl rfl) _, _, HS1.out.store i b1 (joinS rf rs (q i2) (q i3)), upd_other _ _ n2, upd_other _ _ n3⟩))
      have HSP := hide (HS1.out.store i b1 (joinS rf rs (q i2) (q i3)))
      have hK1 := hS1.1
      clear hA0 hA1 hk z0 z1 z2 y0 y1 y2 HS0 HR0 hS1
      generalize ((w1.setCell ⟨gS, i * 3, none⟩ (.pointer (pp bs (joinS rf rs (q i2) (q i3)).lead))).setCell ⟨gS, i * 3 + 1, none⟩ (.pointer (pp bs (joinS rf rs (q i2) (q i3)).first))).setCell ⟨gS, i * 3 + 2, none⟩ (.pointer (pp bs (joinS rf rs (q i2) (q i3)).last)) = W2 at hK1 HSP ⊢
      clear HS1
      go_wp2_with fail
      go_roundw
      case rel =>
        refine ⟨i4, _, rfl, by omega, hK1, HSP, fun k hk => ?_, ?_⟩
        · unfold upd; split
          · exact (HIQ.out i2 b2).join (HIQ.out i3 b3)
          · exact HIQ.out k hk
        · have := HTQ.out.step h0 hi
          rw [← E3.out, ← E2.out, ← E4.out] at this
          exact this
      case measure => simp [intOf]; omega
    · obtain rfl : i = 0 := by omega
      go_wp2_with fail
      exact bodyPost_end (v := .tuple #[]) (by simp [results, Yba.results15, go_sem]) rfl ⟨_, rfl, q, hK, HSQ.out, HIQ.out, HTQ.out.done⟩
end Go.Proofs.Ybulkcnwo
