import Derived.Test.YbulkcnwoLawA
namespace Go.Proofs.Ybulkcnwo
open Go.RowKit
theorem keep_below {S : Nat → Prop} {a b : World} {B : Nat} (h : Keep S a b) (hS : ∀ k, S k → B ≤ k) (hB : B ≤ a.heap.size) : Below B a b := ⟨h.os, h.tape, h.output, h.size, fun k hk => h.block k (by omega) (fun hs => by have := hS k hs; omega)⟩
theorem LI.keep {S : Nat → Prop} {w w' : World} {B L n gR t : Nat} {bs : Nat → Nat} {rs : Nat → R} {rf : Bool} {cnt : Nat → Nat} (h : LI w B L n bs rs rf cnt t gR) (k : Keep S w w') (hL : ∀ x, Ty w x 33 → ¬ S x) (h51 : ∀ x, Ty w x 51 → ¬ S x) (h54 : ∀ x, Ty w x 54 → ¬ S x) (h67 : ∀ x, Ty w x 67 → ¬ S x) (h74 : ∀ x, Ty w x 74 → ¬ S x) (hmb : ∀ x, MB w x → ¬ S x) (hg : ¬ S gR) : LI w' B L n bs rs rf cnt t gR := by
  obtain ⟨capR, gS, size, ee, sp, few, many, par, hL', hrow, hR, hT, hBS, hSp, hIn, hTr, h1, h2, h3, hC, h4⟩ := h
  exact ⟨capR, gS, size, ee, sp, few, many, par, hL'.keep k (hL _ hL'.ty), owns_keep hrow k (fun g e => by simp [Value.ownBlock] at e; subst e; exact hg), hR.keep hT k h51 h54, hT.keep k h51 h54, hBS, hSp.keep k (h67 _ hSp.1), hIn, hTr, h1, h2, h3, hC.keep k h74 hmb, h4⟩
theorem add_step (wr W5 : World) (B L gs n k b : Nat) (bs : Nat → Nat) (rs : Nat → R) (r : R) (rf : Bool) (hk : k < n) (hn : n ≤ 300) (hBL : B ≤ L) (hSt : St wr B L gs n k bs rs rf) (hb5 : Below wr.heap.size wr W5) (hbw : wr.heap.size ≤ b) (hBb : B ≤ b) (hR : RouteAt W5 b r 0) (hok : r.ok) (hT : Ty W5 b 51) (hc : ∀ c g t, r.beat = some (c, g, t) → Ty W5 c 54) :
    Calls Yba.prog 6 #[.pointer (some ⟨L, 0, none⟩), .pointer (some ⟨b, 0, none⟩)] (W5.setCell ⟨gs, k, none⟩ (.pointer (some ⟨b, 0, none⟩))) fun e w' => ∃ v, e = .returned v ∧ Hid (St w' B L gs n (k + 1) (upd bs k b) (upd rs k r) rf) ∧ Below B (W5.setCell ⟨gs, k, none⟩ (.pointer (some ⟨b, 0, none⟩))) w' := by
  have hSt5 := hSt.below hb5
  have hlt : ∀ i, i < k → bs i < wr.heap.size := fun i hi => by
    rcases hSt.2.2.2.2.2.2 with ⟨e, _⟩ | ⟨e, gR, cnt, t, hLI, _⟩
    · omega
    · obtain ⟨_, _, _, _, _, _, _, _, _, _, hR', _⟩ := hLI
      exact (hR' i hi).1.1
  obtain ⟨h1, h2, h3, h4, h5, h6, h7⟩ := hSt5
  have hK : Keep (fun x => x = gs) W5 (W5.setCell ⟨gs, k, none⟩ (.pointer (some ⟨b, 0, none⟩))) := (Keep.refl (fun x => x = gs) W5).setCell (p := ⟨gs, k, none⟩) (.inl rfl) _
  have hne : ∀ x t, Ty W5 x t → t ≠ 37 → x ≠ gs := fun x t hx ht => hx.ne h1 ht
  have hN : NewRoute (W5.setCell ⟨gs, k, none⟩ (.pointer (some ⟨b, 0, none⟩))) B b r := ⟨hR.keep hK (hne b 51 hT (by decide)) (fun c g t e => hne c 54 (hc c g t e) (by decide)), hok, hT.keep hK (hne b 51 hT (by decide)), hBb, fun c g t e => (hc c g t e).keep hK (hne c 54 (hc c g t e) (by decide))⟩
  have hgs6 : Ty (W5.setCell ⟨gs, k, none⟩ (.pointer (some ⟨b, 0, none⟩))) gs 37 := h1.setCell _ _
  have hz : B ≤ (W5.setCell ⟨gs, k, none⟩ (.pointer (some ⟨b, 0, none⟩))).heap.size := by have := hgs6.lt; omega
  obtain ⟨vk, hvk⟩ := Option.isSome_iff_exists.1 (h4 k hk)
  have hcell : ∀ j, j < k + 1 → (W5.setCell ⟨gs, k, none⟩ (.pointer (some ⟨b, 0, none⟩))).cell? ⟨gs, j, none⟩ = some (.pointer (some ⟨upd bs k b j, 0, none⟩)) := fun j hj => by
    by_cases e : j = k
    · subst e; rw [upd_same, World.cell?_setCell_same _ _ _ hvk]
    · rw [upd_other _ _ e, World.cell?_setCell_other _ _ _ _ (fun e' => by injection e' with _ e' _; exact e e'.symm)]
      exact h5 j (by omega)
  have hsome : ∀ j, j < n → ((W5.setCell ⟨gs, k, none⟩ (.pointer (some ⟨b, 0, none⟩))).cell? ⟨gs, j, none⟩).isSome = true := fun j hj => by
    by_cases e : j = k
    · subst e; rw [World.cell?_setCell_same _ _ _ hvk]; rfl
    · rw [World.cell?_setCell_other _ _ _ _ (fun e' => by injection e' with _ e' _; exact e e'.symm)]
      exact h4 j hj
  have hinj1 : ∀ i j, i < k + 1 → j < k + 1 → i ≠ j → upd bs k b i ≠ upd bs k b j := fun i j hi hj hij => by
    by_cases e1 : i = k
    · subst e1
      rw [upd_same, upd_other _ _ (Ne.symm hij)]
      have := hlt j (by omega); omega
    · rw [upd_other _ _ e1]
      by_cases e2 : j = k
      · subst e2; rw [upd_same]; have := hlt i (by omega); omega
      · rw [upd_other _ _ e2]; exact h6.1 i j (by omega) (by omega) hij
  have hinj : Inj B (k + 1) (upd bs k b) := ⟨hinj1, fun i hi => by
    by_cases e : i = k
    · subst e; rw [upd_same]; exact hBb
    · rw [upd_other _ _ e]; exact h6.2 i (by omega)⟩
  have fin : ∀ cnt t e w', AddPost (W5.setCell ⟨gs, k, none⟩ (.pointer (some ⟨b, 0, none⟩))) B L (k + 1) gs (upd bs k b) (upd rs k r) rf cnt t e w' → t ≤ 10 * (k + 1) → (∀ p, cnt p = cntOf (upd rs k r) (k + 1) p) → ∃ v, e = .returned v ∧ Hid (St w' B L gs n (k + 1) (upd bs k b) (upd rs k r) rf) ∧ Below B (W5.setCell ⟨gs, k, none⟩ (.pointer (some ⟨b, 0, none⟩))) w' := by
    rintro cnt t e w' ⟨v, gR', rfl, hLI, hgR', hK'⟩ ht hcnt
    have hng : ¬ (B ≤ gs ∧ gs ≠ gs) := fun h => h.2 rfl
    refine ⟨v, rfl, ⟨hgs6.keep hK' hng, h2, fun j => ?_, fun j hj => ?_, fun j hj => ?_, hinj, .inr ⟨by omega, gR', cnt, t, hLI, hgR', ht, hcnt⟩⟩, keep_below hK' (fun x hx => hx.1) hz⟩
    · rw [hK'.frozen (p := ⟨gs, j, none⟩) hgs6.lt hng, World.frozen?_setCell]; exact h3 j
    · rw [hK'.cell (p := ⟨gs, j, none⟩) hgs6.lt hng]; exact hsome j hj
    · rw [hK'.cell (p := ⟨gs, j, none⟩) hgs6.lt hng]; exact hcell j hj
  rcases h7 with ⟨rfl, hL0⟩ | ⟨hk0, gR, cnt, t, hLI, hgR, ht, hcnt⟩
  · refine (add_first _ B L gs b bs rs r rf hBL (LineAt.keep hL0 hK (hne L 33 (LineAt.ty hL0) (by decide))) hN hgs6).mono fun e w' h => fin _ _ e w' h (by omega) (fun p => ?_)
    rw [cntOf_more]; rfl
  · have hLI' := hLI.keep hK (fun x hx => hne x 33 hx (by decide)) (fun x hx => hne x 51 hx (by decide)) (fun x hx => hne x 54 hx (by decide)) (fun x hx => hne x 67 hx (by decide)) (fun x hx => hne x 74 hx (by decide)) (fun x hx e => by
      subst e
      obtain ⟨cs, fr, g1⟩ := h1
      obtain ⟨es, cl, g2⟩ := hx
      rw [g1] at g2; cases g2) hgR
    refine (add_next _ B L gs b k gR t bs rs r cnt rf hk0 (by omega) hBL hLI' hgR (by omega) (fun x => by rw [hcnt x]; have := cntOf_le rs k x; omega) hN (fun i hi => by have := hlt i hi; omega) hgs6).mono fun e w' h => fin _ _ e w' h (by omega) (fun p => ?_)
    rw [cntOf_more]
    unfold upd
    simp only [hcnt]
end Go.Proofs.Ybulkcnwo
