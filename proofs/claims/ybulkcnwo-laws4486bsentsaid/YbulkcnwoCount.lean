import Derived.Test.YbulkcnwoSet3
namespace Go.Proofs.Ybulkcnwo
open Go.RowKit
theorem CountAt.mono {w : World} {B : Nat} {few many : Value} {t t' : Nat} {cnt : Nat → Nat} (h : CountAt w B few many t cnt) (ht : t ≤ t') : CountAt w B few many t' cnt := by
  rcases h with h | ⟨r, m, D, h1, h2, h3, h4, h5⟩
  · exact .inl h
  · exact .inr ⟨r, m, D, h1, h2, h3, by omega, h5⟩
theorem set_any (w : World) (B L t : Nat) (h : Hdr) (cnt : Nat → Nat) (p v : Nat) (hp : p ≤ 12) (hv : 0 < v) (hv2 : v ≤ 100000) (hcb : ∀ q, cnt q ≤ 100000) (ht : t ≤ 1000000) (hL : LineAt w L h) (hBL : B ≤ L) (hC : CountAt w B h.few h.many t cnt) :
    Calls Yba.prog 19 #[.pointer (some ⟨L, 4, none⟩), .string (nm p), .int .i64 v] w (SetPost w B L h (t + 10) (upd cnt p v)) := by
  rcases hC with ⟨pa, n, cap, fi, hf, hm, hn, hrow, hfw⟩ | ⟨r, m, D, hf, hm, hBr, hmt, hmap, hMp⟩
  · by_cases hc : 0 < cnt p
    · exact set_found w B L n cap t pa h fi cnt p v hp hv hf hm hn hL hrow hfw hc
    · by_cases hn8 : n < 8
      · exact set_insert w B L n cap t pa h fi cnt p v hp hv hf hm hn8 hL hBL hrow hfw (by omega)
      · exact set_grow w B L n cap t pa h fi cnt p v hp hv hv2 hcb hf hm (by omega) hL hBL hrow hfw (by omega)
  · exact set_map w B L r m t h D cnt p v hp hv hv2 hf hm hBr hmt ht hL hmap hMp
set_option maxHeartbeats 400000 in
theorem remove_any (w : World) (B L t : Nat) (h : Hdr) (cnt : Nat → Nat) (p : Nat) (hp : p ≤ 12) (hc : 0 < cnt p) (hL : LineAt w L h) (hBL : B ≤ L) (hC : CountAt w B h.few h.many t cnt) :
    Calls Yba.prog 20 #[.pointer (some ⟨L, 4, none⟩), .string (nm p)] w (SetPost w B L h (t + 10) (upd cnt p 0)) := by
  rcases hC with ⟨pa, n, cap, fi, hf, hm, hn, hrow, hfw⟩ | ⟨r, m, D, hf, hm, hBr, hmt, hmap, hMp⟩
  · have h4 : w.cell? ⟨L, 4, none⟩ = some (.slice pa n cap) := by rw [hL.cell 4]; simp [Hdr.arr, hf]
    have h5 : w.cell? ⟨L, 5, none⟩ = some (.map none) := by rw [hL.cell 5]; simp [Hdr.arr, hm]
    have hl := hL.ty.lt
    have hF := owns_few hrow (fun k hk => (hfw.2.1 k hk).1)
    have H := hide (find_any w L pa n cap fi (fun k => cnt (fi k)) p hp (by omega) hF hfw.1 h4)
    have HF := hide hF
    have HW := hide hfw
    have HL := hide hL
    have HR := hide hrow
    clear hF hfw hrow hL
    have hq := neq27
    generalize hnm : nm p = b at *
    clear hnm
    go_enter Yba.func20, Yba.ntmps20
    go_upto_region 3 with (go_at_call 16; go_must (refine H.out.mono ?_); rintro _ w1 ⟨pos, fd, rfl, hb1, hfd⟩; have HFD := hide hfd; clear hfd)
    obtain ⟨k0, hk0, hkp0⟩ := HW.out.2.2 p hp hc
    obtain rfl : fd = true := by
      cases fd
      · exact absurd hkp0 (HFD.out.2.2.2.2 rfl k0 hk0)
      · rfl
    obtain ⟨hpos, hpp⟩ := HFD.out.2.2.2.1 rfl
    obtain ⟨g, rfl, hg, hk12, -, -⟩ := (HF.out.later hb1) pos hpos
    have HR1 := hide (owns_keep HR.out ((Keep.refl (fun _ => False) _).below hb1) (fun _ _ h => h))
    obtain ⟨n1, hn1⟩ : ∃ n1, n1 + 1 = n := ⟨n - 1, by omega⟩
    have HN1 := hide hn1
    have h4' := (hb1.cell (p := ⟨L, 4, none⟩) hl).trans h4
    have hposI : (pos : Int) < n := by omega
    have hLg : L ≠ g := HL.out.ty.ne (ty_of_owns HR.out) (by decide)
    have HD := hide (delete_any w1 B g n n1 cap pos _ hn1 hpos (flatF_oneCell n fi (fun k => cnt (fi k))) HR1.out)
    rw [flatF_del n n1 fi (fun k => (cnt (fi k) : Int)) pos hn1 hpos] at HD
    clear hn1
    go_wp2_with (first | (go_at_call 27; go_must (refine HD.out.mono ?_); rintro _ w2 ⟨rfl, hown2, hk2⟩; have HL2 : Hid (LineAt w2 L h) := (hk2.block L (Nat.lt_of_lt_of_le hl hb1.size) hLg).trans ((hb1.block L hl).trans HL.out); have c4 : w2.cell? ⟨L, 4, none⟩ = some (.slice (some ⟨g, 0, none⟩) n cap) := (HL2.out.cell 4).trans (congrArg some hf); have f4 := HL2.out.frozen 4; have HO2 := hide hown2; have HK2 := hide hk2; clear hown2 hk2))
    have hkeep : Keep (Sc w B L) w (w2.setCell ⟨L, 4, none⟩ (.slice (some ⟨g, 0, none⟩) n1 cap)) :=
      (((Keep.refl (Sc w B L) w).below hb1).trans' HK2.out (fun x hx e => by
        subst e
        exact ⟨(owns_shape HR.out).2.2.2.1, .inr (.inl (ty_of_owns HR.out))⟩)).setCell (p := ⟨L, 4, none⟩) (.inl ⟨hBL, .inl rfl⟩) _
    refine bodyPost_end (v := .tuple #[]) (by simp [results, Yba.results20]) rfl ⟨_, .slice (some ⟨g, 0, none⟩) n1 cap, h.many, rfl, HL2.out.setFew _, .inl ⟨_, n1, cap, delF fi pos, rfl, hm, by have := HN1.out; omega, ?_, HW.out.del HN1.out hpos hpp⟩, hkeep⟩
    have hst := HO2.out
    have e : flatF n1 (delF fi pos) (delF (fun k => (cnt (fi k) : Int)) pos) = flatF n1 (delF fi pos) fun k => ((upd cnt p 0 (delF fi pos k) : Nat) : Int) := by
      refine flatF_eq (flatF_length _ _ _) (fun k hk => ?_)
      obtain ⟨a1, a2⟩ := flatF_at n1 (delF fi pos) (delF (fun k => (cnt (fi k) : Int)) pos) k hk
      refine ⟨a1, a2.trans ?_⟩
      congr 2
      have hn1 := HN1.out
      have hne : ∀ k, k < n → k ≠ pos → fi k ≠ p := fun k hk hkp e => by
        rcases Nat.lt_or_gt_of_ne hkp with h | h
        · have := HW.out.1 k pos h hpos; omega
        · have := HW.out.1 pos k h hk; omega
      unfold delF
      by_cases k1 : k < pos
      · rw [if_pos k1, if_pos k1, upd_other _ _ (hne k (by omega) (by omega))]
      · rw [if_neg k1, if_neg k1, upd_other _ _ (hne (k + 1) (by omega) (by omega))]
    rw [e] at hst
    refine owns_keep hst ((Keep.refl (fun k => k = L) _).setCell (p := ⟨L, 4, none⟩) (.inl rfl) _) (fun g' hg' e => ?_)
    simp [Value.ownBlock] at hg'
    subst hg'
    exact hLg e.symm
  · have h5 : w.cell? ⟨L, 5, none⟩ = some (.map (some r)) := by rw [hL.cell 5]; simp [Hdr.arr, hm]
    have hlr : L ≠ r := by
      rintro rfl
      obtain ⟨es, cl, hb, -⟩ := hmap
      have hL' : w.heap[L]? = some (.cells h.arr 33 (0, 0)) := hL
      rw [hL'] at hb; cases hb
    have HM := hide hmap
    have HP := hide hMp
    have HL := hide hL
    clear hmap hMp hL
    have hky := key_nm p
    generalize hnm : nm p = b at *
    clear hnm
    have hq := neq27
    go_enter Yba.func20, Yba.ntmps20
    go_wp2_with (at_delete; go_must (refine wpList_delete_own _ rfl (.tmp 14) (.tmp 15) 27 9 rfl 3 law9 Yba.underlying27 _ r m D rfl HM.out (.string b) (kn p) rfl hky ?_); intro w1 hown1 hturn1; have HT := hide hturn1; clear hturn1)
    have hg := HT.out.grown
    have hk : Keep (Sc w B L) w w1 := (Keep.refl _ _).grown hg (fun k e => by
      injection e with e; subst e
      obtain ⟨es, cl, hb, -⟩ := HM.out
      exact .inl ⟨hBr, .inr (.inr ⟨es, cl, hb⟩)⟩)
    refine bodyPost_end (v := .tuple #[]) (by simp [results, Yba.results20]) rfl ⟨_, h.few, h.many, rfl, ?_, .inr ⟨r, m, _, hf, hm, hBr, by omega, hown1, HP.out.del hp⟩, hk⟩
    exact (hg.block L HL.out.ty.lt (fun e => hlr (by injection e))).trans HL.out
end Go.Proofs.Ybulkcnwo
