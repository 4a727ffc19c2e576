import Derived.Test.YbulkcnwoCount
namespace Go.Proofs.Ybulkcnwo
open Go.RowKit
theorem CountAt.keep {S : Nat → Prop} {w w' : World} {B : Nat} {few many : Value} {t : Nat} {cnt : Nat → Nat} (h : CountAt w B few many t cnt) (k : Keep S w w') (h1 : ∀ g, Ty w g 74 → ¬ S g) (h2 : ∀ g, MB w g → ¬ S g) : CountAt w' B few many t cnt := by
  rcases h with ⟨pa, n, cap, fi, hf, hm, hn, hrow, hfw⟩ | ⟨r, m, D, hf, hm, hBr, hmt, hmap, hMp⟩
  · refine .inl ⟨pa, n, cap, fi, hf, hm, hn, owns_keep hrow k (fun g hg => h1 g ?_), hfw⟩
    have hr := hrow
    rcases hrow.2 with ⟨h0, _⟩ | ⟨g', cap', cur, hv', -⟩
    · rw [h0] at hg; simp [Value.ownBlock] at hg
    · rw [hv'] at hg
      simp [Value.ownBlock] at hg
      subst hg
      rw [hv'] at hr
      exact ty_of_owns hr
  · refine .inr ⟨r, m, D, hf, hm, hBr, hmt, ?_, hMp⟩
    have hlt := hmap.lt
    obtain ⟨es, cl, hb, hr⟩ := hmap
    exact ⟨es, cl, (k.block r hlt (h2 r ⟨es, cl, hb⟩)).trans hb, hr⟩
theorem Sc_of {w w1 : World} (hb : Below w.heap.size w w1) {B L x : Nat} (hx : x < w.heap.size) (h : Sc w1 B L x) : Sc w B L x := by
  obtain ⟨h1, h2⟩ := h
  have e := hb.block x hx
  refine ⟨h1, ?_⟩
  rcases h2 with h2 | ⟨cs, fr, h2⟩ | ⟨es, cl, h2⟩
  · exact .inl h2
  · exact .inr (.inl ⟨cs, fr, e ▸ h2⟩)
  · exact .inr (.inr ⟨es, cl, e ▸ h2⟩)
set_option maxHeartbeats 400000 in
theorem count_any (w : World) (B L t : Nat) (h : Hdr) (cnt : Nat → Nat) (p c' : Nat) (d : Int) (hd : (cnt p : Int) + d = c') (hd1 : d = 1 ∨ d = -1) (hp : p ≤ 12) (hc' : c' ≤ 100000) (hcb : ∀ q, cnt q ≤ 100000) (ht : t ≤ 1000000) (hL : LineAt w L h) (hBL : B ≤ L) (hC : CountAt w B h.few h.many t cnt) :
    Calls Yba.prog 14 #[.pointer (some ⟨L, 0, none⟩), .string (nm p), .int .i64 d] w (SetPost w B L h (t + 10) (upd cnt p c')) := by
  have h4 : w.cell? ⟨L, 4, none⟩ = some h.few := hL.cell 4
  have h5 : w.cell? ⟨L, 5, none⟩ = some h.many := hL.cell 5
  have hl := hL.ty.lt
  have hcp := hcb p
  have HG := hide (get_any w B L h.few h.many t cnt p hp hC hl h4 h5)
  have HS : Hid (∀ w1 : World, Below w.heap.size w w1 → c' ≠ 0 → Calls Yba.prog 19 #[.pointer (some ⟨L, 4, none⟩), .string (nm p), .int .i64 c'] w1 (SetPost w1 B L h (t + 10) (upd cnt p c'))) := fun w1 hb h0 =>
    set_any w1 B L t h cnt p c' hp (by omega) hc' hcb ht ((hb.block L hl).trans hL) hBL (hC.keep ((Keep.refl (fun _ => False) _).below hb) (fun _ _ h => h) (fun _ _ h => h))
  have HR : Hid (∀ w1 : World, Below w.heap.size w w1 → c' = 0 → Calls Yba.prog 20 #[.pointer (some ⟨L, 4, none⟩), .string (nm p)] w1 (SetPost w1 B L h (t + 10) (upd cnt p c'))) := fun w1 hb h0 => by
    rw [h0]
    exact remove_any w1 B L t h cnt p hp (by omega) ((hb.block L hl).trans hL) hBL (hC.keep ((Keep.refl (fun _ => False) _).below hb) (fun _ _ h => h) (fun _ _ h => h))
  have hw : IntKind.i64.wrap (c' : Int) = c' := by rw [IntKind.wrap_i64]; omega
  clear hC hd1 hcb hcp
  generalize hnm : nm p = b at *
  clear hnm
  by_cases h0 : c' = 0
  · have h0I : (c' : Int) = 0 := by omega
    have HRR := hide fun w1 hb => HR.out w1 hb h0
    clear HS HR h0
    rw [h0I] at hd
    go_enter Yba.func14, Yba.ntmps14
    go_wp2_with (first | (go_at_call 8; go_must (refine HG.out.mono ?_); rintro _ w1 ⟨rfl, hb1⟩) | (go_at_call 20; go_must (refine (HRR.out w1 hb1).mono ?_); rintro _ w2 ⟨v, few', many', rfl, hL2, hC2, hK2⟩; have HP := hide (And.intro hL2 (And.intro hC2 hK2)); clear hL2 hC2 hK2))
    obtain ⟨hL2, hC2, hK2⟩ := HP.out
    refine bodyPost_end (v := .tuple #[]) (by simp [results, Yba.results14]) rfl ⟨_, few', many', rfl, hL2, hC2, ((Keep.refl (Sc w B L) w).below hb1).trans' hK2 (fun x hx e => Sc_of hb1 hx e)⟩
  · have h0I : ¬ (c' : Int) = 0 := by omega
    have HSS := hide fun w1 hb => HS.out w1 hb h0
    clear HS HR h0
    go_enter Yba.func14, Yba.ntmps14
    go_wp2_with (first | (go_at_call 8; go_must (refine HG.out.mono ?_); rintro _ w1 ⟨rfl, hb1⟩) | (go_at_call 19; go_must (refine (HSS.out w1 hb1).mono ?_); rintro _ w2 ⟨v, few', many', rfl, hL2, hC2, hK2⟩; have HP := hide (And.intro hL2 (And.intro hC2 hK2)); clear hL2 hC2 hK2))
    obtain ⟨hL2, hC2, hK2⟩ := HP.out
    refine bodyPost_end (v := .tuple #[]) (by simp [results, Yba.results14]) rfl ⟨_, few', many', rfl, hL2, hC2, ((Keep.refl (Sc w B L) w).below hb1).trans' hK2 (fun x hx e => Sc_of hb1 hx e)⟩
end Go.Proofs.Ybulkcnwo
