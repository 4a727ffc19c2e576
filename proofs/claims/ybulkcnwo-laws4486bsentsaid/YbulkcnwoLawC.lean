import Derived.Test.YbulkcnwoLawB
namespace Go.Proofs.Ybulkcnwo
open Go.RowKit
/-- The state behind the building. -/
def St2 (w : World) (B L gs n : Nat) (bs : Nat → Nat) (rs : Nat → R) (rf : Bool) (T : Nat) : Prop :=
  Ty w gs 37 ∧ B ≤ gs ∧ (∀ j, j < n → w.cell? ⟨gs, j, none⟩ = some (.pointer (some ⟨bs j, 0, none⟩))) ∧ Inj B n bs ∧
    ∃ gR cnt t, LI w B L n bs rs rf cnt t gR ∧ gR ≠ gs ∧ t ≤ T ∧ ∀ p, cnt p = cntOf rs n p
theorem St.two {w : World} {B L gs n : Nat} {bs : Nat → Nat} {rs : Nat → R} {rf : Bool} (h : St w B L gs n n bs rs rf) (hn : 0 < n) : St2 w B L gs n bs rs rf (10 * n) := by
  obtain ⟨h1, h2, h3, h4, h5, h6, h7⟩ := h
  rcases h7 with ⟨e, _⟩ | ⟨_, gR, cnt, t, h8, h9, h10, h11⟩
  · omega
  · exact ⟨h1, h2, h5, h6, gR, cnt, t, h8, h9, h10, h11⟩
theorem St2.below {w w' : World} {B L gs n T : Nat} {bs : Nat → Nat} {rs : Nat → R} {rf : Bool} (h : St2 w B L gs n bs rs rf T) (hb : Below w.heap.size w w') : St2 w' B L gs n bs rs rf T := by
  obtain ⟨h1, h2, h5, h6, gR, cnt, t, h8, h9, h10, h11⟩ := h
  have k0 := (Keep.refl (fun _ => False) w).below hb
  exact ⟨h1.below hb, h2, fun j hj => (hb.cell (p := ⟨gs, j, none⟩) h1.lt).trans (h5 j hj), h6, gR, cnt, t, h8.keep k0 (fun _ _ h => h) (fun _ _ h => h) (fun _ _ h => h) (fun _ _ h => h) (fun _ _ h => h) (fun _ _ h => h) id, h9, h10, h11⟩
theorem cntOf_pos (rs : Nat → R) (j : Nat) : ∀ n, j < n → 0 < cntOf rs n (rs j).at'
  | 0, h => by omega
  | n + 1, h => by
    simp only [cntOf]
    by_cases e : j = n
    · subst e; simp
    · have := cntOf_pos rs j n (by omega); omega
theorem cntOf_turn1 (rs : Nat → R) (j : Nat) (r : R) (x : Nat) : ∀ n, j < n → cntOf (upd rs j r) n x + (if (rs j).at' = x then 1 else 0) = cntOf rs n x + (if r.at' = x then 1 else 0)
  | 0, h => by omega
  | n + 1, h => by
    simp only [cntOf]
    by_cases e : j = n
    · subst e
      rw [cntOf_upd rs j r j x (Nat.le_refl _), upd_same]; omega
    · have := cntOf_turn1 rs j r x n (by omega)
      rw [upd_other _ _ (Ne.symm e)]; omega
theorem cntOf_turn (rs : Nat → R) (j n : Nat) (r : R) (hj : j < n) (x : Nat) : upd (upd (cntOf rs n) (rs j).at' (cntOf rs n (rs j).at' - 1)) r.at' (upd (cntOf rs n) (rs j).at' (cntOf rs n (rs j).at' - 1) r.at' + 1) x = cntOf (upd rs j r) n x := by
  have h1 := cntOf_turn1 rs j r x n hj
  have h2 := cntOf_pos rs j n hj
  unfold upd at h1 ⊢
  by_cases e1 : x = r.at' <;> by_cases e2 : x = (rs j).at'
  · subst e1; rw [if_pos rfl, if_pos e2]; simp only [e2, if_true] at h1 ⊢; omega
  · subst e1; rw [if_pos rfl, if_neg e2]; rw [if_neg (Ne.symm e2)] at h1; simp only [if_true] at h1; omega
  · rw [if_neg e1, if_pos e2]; subst e2; rw [if_neg (Ne.symm e1)] at h1; simp only [if_true] at h1; omega
  · rw [if_neg e1, if_neg e2]; rw [if_neg (Ne.symm e1), if_neg (Ne.symm e2)] at h1; omega
theorem move_step (wr W5 : World) (B L gs n j q T : Nat) (reach : Int) (bs : Nat → Nat) (rs : Nat → R) (rf : Bool) (hj : j < n) (_hn : n ≤ 300) (hBL : B ≤ L) (hT : T ≤ 900000) (hq : q ≤ 12) (hr1 : -128 ≤ reach) (hr2 : reach ≤ 127) (hSt : St2 wr B L gs n bs rs rf T) (hb5 : Below wr.heap.size wr W5) :
    Calls Yba.prog 7 #[.pointer (some ⟨L, 0, none⟩), .pointer (some ⟨bs j, 0, none⟩), .string (nm (rs j).at')] ((W5.setCell ⟨bs j, 45, none⟩ (.string (nm q))).setCell ⟨bs j, 48, none⟩ (fl reach)) fun e w' => ∃ v, e = .returned v ∧ Hid (St2 w' B L gs n bs (upd rs j { rs j with at' := q, reach := reach }) rf (T + 20)) ∧ Below B ((W5.setCell ⟨bs j, 45, none⟩ (.string (nm q))).setCell ⟨bs j, 48, none⟩ (fl reach)) w' := by
  obtain ⟨h1, h2, h5, h6, gR, cnt, t, h8, h9, h10, h11⟩ := hSt.below hb5
  obtain ⟨capR, gS, size, ee, sp, few, many, par, hL, hrow, hR, hRT, hBS, hSp, hIn, hTr, g1, g2, g3, hC, g4⟩ := h8
  have hK : Keep (fun x => x = bs j) W5 ((W5.setCell ⟨bs j, 45, none⟩ (.string (nm q))).setCell ⟨bs j, 48, none⟩ (fl reach)) := ((Keep.refl (fun x => x = bs j) W5).setCell (p := ⟨bs j, 45, none⟩) (.inl rfl) _).setCell (p := ⟨bs j, 48, none⟩) (.inl rfl) _
  have hRj : RouteAt ((W5.setCell ⟨bs j, 45, none⟩ (.string (nm q))).setCell ⟨bs j, 48, none⟩ (fl reach)) (bs j) { rs j with at' := q, reach := reach } j := ((hR j hj).1.setAt q).setReach reach
  have hTj := (hRT j hj).1
  have hTj6 : Ty ((W5.setCell ⟨bs j, 45, none⟩ (.string (nm q))).setCell ⟨bs j, 48, none⟩ (fl reach)) (bs j) 51 := (hTj.setCell _ _).setCell _ _
  have hne : ∀ x t, Ty W5 x t → t ≠ 51 → x ≠ bs j := fun x t hx ht => hx.ne hTj ht
  generalize (W5.setCell ⟨bs j, 45, none⟩ (.string (nm q))).setCell ⟨bs j, 48, none⟩ (fl reach) = W6 at hK hRj hTj6 ⊢
  have hokj := (hR j hj).2
  have hR6 : Routes W6 n bs (upd rs j { rs j with at' := q, reach := reach }) := fun i hi => by
    by_cases e : i = j
    · subst e; rw [upd_same]; exact ⟨hRj, hr1, hr2, hokj.2.2.1, hokj.2.2.2.1, hq, hokj.2.2.2.2.2⟩
    · rw [upd_other _ _ e]
      exact ⟨(hR i hi).1.keep hK (h6.1 i j hi hj e) (fun c g t e' => hne c 54 ((hRT i hi).2 c g t e') (by decide)), (hR i hi).2⟩
  have hT6 : RTy W6 n bs (upd rs j { rs j with at' := q, reach := reach }) := fun i hi => by
    by_cases e : i = j
    · subst e; rw [upd_same]
      exact ⟨hTj6, fun c g t e' => ((hRT i hi).2 c g t e').keep hK (hne c 54 ((hRT i hi).2 c g t e') (by decide))⟩
    · rw [upd_other _ _ e]
      exact ⟨(hRT i hi).1.keep hK (h6.1 i j hi hj e), fun c g t e' => ((hRT i hi).2 c g t e').keep hK (hne c 54 ((hRT i hi).2 c g t e') (by decide))⟩
  have hgR5 : Ty W5 gR 37 := ty_of_owns hrow
  have hrow6 := owns_keep hrow hK (fun g e => by simp [Value.ownBlock] at e; subst e; exact hne _ 37 hgR5 (by decide))
  have hL6 := hL.keep hK (hne _ 33 hL.ty (by decide))
  have hS6 := hSp.keep hK (hne _ 67 hSp.1 (by decide))
  have hC6 := hC.keep hK (fun g hg => hne g 74 hg (by decide)) (fun g hg e => by
    subst e
    obtain ⟨cs, fr, k1⟩ := hTj
    obtain ⟨es, cl, k2⟩ := hg
    rw [k1] at k2; cases k2)
  have hgs6 : Ty W6 gs 37 := h1.keep hK (hne _ 37 h1 (by decide))
  have hcb : ∀ x, cnt x ≤ 90000 := fun x => by rw [h11 x]; have := cntOf_le rs n x; omega
  refine (sent_any W6 B L gR gS n capR size t j (rs j).at' q bs rs { rs j with at' := q, reach := reach } sp cnt n par 0 few many rf hBL hL6 (ty_of_owns hrow6) (fun k hk => by rw [hrow6.cellAt k (by omega)]; exact ptrs_get n bs k hk) hR6 hT6 hS6 hIn hTr hj g2 g3 hC6 (by omega) hcb hokj.2.2.2.2.1 hq rfl (by rw [h11]; exact cntOf_pos rs j n hj)).mono fun e w' => ?_
  rintro ⟨v, few', many', sp', rfl, hL7, hC7, hS7, hI7, hT7, hK7⟩
  have hnS : ∀ x t, Ty W6 x t → t ≠ 33 → t ≠ 74 → t ≠ 67 → ¬ Sl W6 B L gS x := fun x t hx t1 t2 t3 h => by
    rcases h with h | h
    · exact not_Sc hL6 hx t1 t2 h
    · exact hx.ne hS6.1 t3 h
  refine ⟨v, rfl, ⟨hgs6.keep hK7 (hnS _ 37 hgs6 (by decide) (by decide) (by decide)), h2, fun i hi => ?_, h6, gR, _, t + 20, ⟨capR, gS, size, ee, sp', few', many', par, hL7, owns_keep hrow6 hK7 (fun g e => by simp [Value.ownBlock] at e; subst e; exact hnS _ 37 (ty_of_owns hrow6) (by decide) (by decide) (by decide)), hR6.keep hT6 hK7 (fun x hx => hnS x 51 hx (by decide) (by decide) (by decide)) (fun x hx => hnS x 54 hx (by decide) (by decide) (by decide)), hT6.keep hK7 (fun x hx => hnS x 51 hx (by decide) (by decide) (by decide)) (fun x hx => hnS x 54 hx (by decide) (by decide) (by decide)), hBS, hS7, hI7, hT7, g1, g2, g3, hC7, g4⟩, h9, by omega, fun p => ?_⟩, keep_below hK7 (fun x hx => ?_) (by have := hgs6.lt; omega)⟩
  · rw [hK7.cell (p := ⟨gs, i, none⟩) hgs6.lt (hnS _ 37 hgs6 (by decide) (by decide) (by decide)), hK.cell (p := ⟨gs, i, none⟩) h1.lt (hne _ 37 h1 (by decide))]; exact h5 i hi
  · have hf : cnt = cntOf rs n := funext h11
    rw [hf]; exact cntOf_turn rs j n { rs j with at' := q, reach := reach } hj p
  · rcases hx with hx | hx
    · exact hx.1
    · rw [hx]; exact hBS
end Go.Proofs.Ybulkcnwo
