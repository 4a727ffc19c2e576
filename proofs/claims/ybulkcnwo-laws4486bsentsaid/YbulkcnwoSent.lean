import Derived.Test.YbulkcnwoPlain
namespace Go.Proofs.Ybulkcnwo
open Go.RowKit
theorem not_Sc {w : World} {B L k : Nat} {t : TypeId} {h : Hdr} (hL : LineAt w L h) (hk : Ty w k t) (h1 : t ≠ 33) (h2 : t ≠ 74) : ¬ Sc w B L k := by
  rintro ⟨-, h | h | ⟨es, cl, h⟩⟩
  · subst h; exact hk.ne hL.ty h1 rfl
  · exact hk.ne h h2 rfl
  · obtain ⟨cs, fr, hk⟩ := hk
    rw [hk] at h; cases h
theorem Spans.keep {S : Nat → Prop} {w w' : World} {g m : Nat} {bs : Nat → Nat} {sp : Nat → Sp} (h : Spans w g m bs sp) (k : Keep S w w') (hs : ¬ S g) : Spans w' g m bs sp := by
  have hl := h.1.lt
  refine ⟨h.1.keep k hs, fun j => (k.frozen (p := ⟨g, j, none⟩) hl hs).trans (h.2.1 j), fun i hi => ?_⟩
  obtain ⟨h1, h2, h3⟩ := h.2.2 i hi
  exact ⟨(k.cell (p := ⟨g, i * 3, none⟩) hl hs).trans h1, (k.cell (p := ⟨g, i * 3 + 1, none⟩) hl hs).trans h2, (k.cell (p := ⟨g, i * 3 + 2, none⟩) hl hs).trans h3⟩
/-- The blocks that a line's turn may turn. -/
def Sl (w : World) (B L gS k : Nat) : Prop := Sc w B L k ∨ k = gS
def SentPost (w : World) (B L gS size n : Nat) (h : Hdr) (t : Nat) (cnt' : Nat → Nat) (bs : Nat → Nat) (rs' : Nat → R) (e : Ending) (w' : World) : Prop :=
  ∃ v few' many' sp', e = .returned v ∧ LineAt w' L { h with few := few', many := many' } ∧ CountAt w' B few' many' t cnt' ∧ Spans w' gS (2 * size) bs sp' ∧ (∀ k, k < 2 * size → (sp' k).In n) ∧ Tree h.rf n size rs' sp' ∧ Keep (Sl w B L gS) w w'
theorem Sc_keep {w w1 : World} {B L L' x : Nat} (hk : Keep (Sc w B L') w w1) (hL : L = L') (hx : x < w.heap.size) (h : Sc w1 B L x) : Sc w B L' x := by
  subst hL
  by_cases hn : Sc w B L x
  · exact hn
  · have e := hk.block x hx hn
    obtain ⟨h1, h2⟩ := h
    refine ⟨h1, ?_⟩
    rcases h2 with h2 | ⟨cs, fr, h2⟩ | ⟨es, cl, h2⟩
    · exact .inl h2
    · exact .inr (.inl ⟨cs, fr, e ▸ h2⟩)
    · exact .inr (.inr ⟨es, cl, e ▸ h2⟩)
set_option maxHeartbeats 1000000 in
theorem sent_any (w : World) (B L gR gS n capR size t j p q : Nat) (bs : Nat → Nat) (rs : Nat → R) (r' : R) (sp : Nat → Sp) (cnt : Nat → Nat) (held parked own : Int) (few many : Value) (rf : Bool) (hBL : B ≤ L)
    (hL : LineAt w L ⟨.slice (some ⟨gR, 0, none⟩) n capR, held, parked, own, few, many, .slice (some ⟨gS, 0, none⟩) (2 * size) (2 * size), rf⟩)
    (hgR : Ty w gR 37) (hrow : ∀ k, k < n → w.cell? ⟨gR, k, none⟩ = some (.pointer (some ⟨bs k, 0, none⟩)))
    (hR : Routes w n bs (upd rs j r')) (hT : RTy w n bs (upd rs j r')) (hS : Spans w gS (2 * size) bs sp) (hIn : ∀ k, k < 2 * size → (sp k).In n) (hTr : Tree rf n size rs sp) (hj : j < n) (hn : n ≤ size) (hsz : size ≤ 4096)
    (hC : CountAt w B few many t cnt) (ht : t ≤ 900000) (hcb : ∀ x, cnt x ≤ 90000) (hp : p ≤ 12) (hq : q ≤ 12) (hqr : r'.at' = q) (hcp : 0 < cnt p) :
    Calls Yba.prog 7 #[.pointer (some ⟨L, 0, none⟩), .pointer (some ⟨bs j, 0, none⟩), .string (nm p)] w (SentPost w B L gS size n ⟨.slice (some ⟨gR, 0, none⟩) n capR, held, parked, own, few, many, .slice (some ⟨gS, 0, none⟩) (2 * size) (2 * size), rf⟩ (t + 20) (upd (upd cnt p (cnt p - 1)) q (upd cnt p (cnt p - 1) q + 1)) bs (upd rs j r')) := by
  have hcb1 : ∀ x, upd cnt p (cnt p - 1) x ≤ 90000 := fun x => by
    unfold upd; split
    · have := hcb p; omega
    · exact hcb x
  have H1 := hide (count_any w B L t _ cnt p (cnt p - 1) (-1) (by omega) (.inr rfl) hp (by have := hcb p; omega) (fun x => by have := hcb x; omega) (by omega) hL hBL hC)
  have HL := hide hL
  have HG := hide hgR
  have HRW := hide hrow
  have HR := hide hR
  have HT := hide hT
  have HS := hide hS
  have HI := hide hIn
  have HTr := hide (hTr.turned j r')
  have HCB := hide hcb1
  clear hL hgR hrow hR hT hS hIn hTr hC hcb1 hcb hcp
  go_enter Yba.func7, Yba.ntmps7
  go_upto_region 1 with (go_at_call 14; go_must (refine H1.out.mono ?_); rintro _ w1 ⟨v1, few1, many1, rfl, hL1, hC1, hK1⟩; have HL1 := hide hL1; have HC1 := hide hC1; have HK1 := hide hK1; clear hL1 hC1 hK1)
  have HR1 : Hid (Routes w1 n bs (upd rs j r')) := HR.out.keep HT.out HK1.out (fun b hb => not_Sc HL.out hb (by decide) (by decide)) (fun b hb => not_Sc HL.out hb (by decide) (by decide))
  have HT1 : Hid (RTy w1 n bs (upd rs j r')) := HT.out.keep HK1.out (fun b hb => not_Sc HL.out hb (by decide) (by decide)) (fun b hb => not_Sc HL.out hb (by decide) (by decide))
  have c45 : w1.cell? ⟨bs j, 45, none⟩ = some (.string (nm q)) := by
    have := (HR1.out j hj).1.2.2.2.2.2.1
    rwa [upd_same, hqr] at this
  have H2 := hide (count_any w1 B L (t + 10) _ _ q (upd cnt p (cnt p - 1) q + 1) 1 (by omega) (.inl rfl) hq (by have := HCB.out q; omega) (fun x => by have := HCB.out x; omega) (by omega) HL1.out hBL HC1.out)
  go_upto_region 2 with (go_at_call 14; go_must (refine H2.out.mono ?_); rintro _ w2 ⟨v2, few2, many2, rfl, hL2, hC2, hK2⟩; have HL2 := hide hL2; have HC2 := hide hC2; have HK2 : Hid (Keep (Sc w B L) w w2) := HK1.out.trans' hK2 (fun x hx e => Sc_keep HK1.out rfl hx e); clear hL2 hC2 hK2)
  have HR2 : Hid (Routes w2 n bs (upd rs j r')) := HR.out.keep HT.out HK2.out (fun b hb => not_Sc HL.out hb (by decide) (by decide)) (fun b hb => not_Sc HL.out hb (by decide) (by decide))
  have HT2 : Hid (RTy w2 n bs (upd rs j r')) := HT.out.keep HK2.out (fun b hb => not_Sc HL.out hb (by decide) (by decide)) (fun b hb => not_Sc HL.out hb (by decide) (by decide))
  have HG2 : Hid (Ty w2 gR 37) := HG.out.keep HK2.out (not_Sc HL.out HG.out (by decide) (by decide))
  have HS2 : Hid (Spans w2 gS (2 * size) bs sp) := HS.out.keep HK2.out (not_Sc HL.out HS.out.1 (by decide) (by decide))
  have HRW2 : Hid (∀ k, k < n → w2.cell? ⟨gR, k, none⟩ = some (.pointer (some ⟨bs k, 0, none⟩))) := fun k hk => (HK2.out.cell (p := ⟨gR, k, none⟩) HG.out.lt (not_Sc HL.out HG.out (by decide) (by decide))).trans (HRW.out k hk)
  have c53 : w2.cell? ⟨bs j, 53, none⟩ = some (.int .i64 j) := (HR2.out j hj).1.2.2.2.2.2.2.1
  have H3 := hide (note_any w2 L gR gS n capR size j bs (upd rs j r') sp held parked own few2 many2 rf HL2.out HG2.out HRW2.out HR2.out HT2.out HS2.out HI.out hj hn hsz HTr.out.1 HTr.out.2)
  go_wp2_with (go_at_call 15; go_must (refine H3.out.mono ?_); rintro _ w3 ⟨v3, rfl, sp', hK3, hS3, hI3, hT3⟩; have HK3 := hide hK3; have HS3 := hide hS3; have HI3 := hide hI3; have HT3 := hide hT3; clear hK3 hS3 hI3 hT3)
  have hgSL : L ≠ gS := HL2.out.ty.ne HS2.out.1 (by decide)
  refine bodyPost_end (v := .tuple #[]) (by simp [results, Yba.results7]) rfl ⟨_, few2, many2, sp', rfl, HL2.out.keep HK3.out hgSL, ?_, HS3.out, HI3.out, HT3.out, ?_⟩
  · exact HC2.out.keep HK3.out (fun g hg e => hg.ne HS2.out.1 (by decide) e) (fun g hg e => by
      subst e
      obtain ⟨cs, fr, h1⟩ := HS2.out.1
      obtain ⟨es, cl, h2⟩ := hg
      rw [h1] at h2; cases h2)
  · exact (HK2.out.mono (fun k _ h => .inl h)).trans' HK3.out (fun x _ e => .inr e)
end Go.Proofs.Ybulkcnwo
