import Derived.Test.YbulkcnwoGet
namespace Go.Proofs.Ybulkcnwo
open Go.RowKit
theorem owns_keep {S : Nat → Prop} {w w' : World} {B s n : Nat} {t : TypeId} {v : Value} {xs : List Value} (h : w.ownsRow B t s v n xs) (k : Keep S w w') (hs : ∀ g, v.ownBlock = some g → ¬ S g) : w'.ownsRow B t s v n xs := by
  have hlt := h.lt
  obtain ⟨h1, h2⟩ := h
  refine ⟨h1, ?_⟩
  rcases h2 with h2 | ⟨g, cap, cur, rfl, hb, hg, hr⟩
  · exact .inl h2
  · exact .inr ⟨g, cap, cur, rfl, hb, (k.block g (hlt g rfl).2 (hs g rfl)).trans hg, hr⟩
theorem ty_of_owns {w : World} {B g n cap s : Nat} {t : TypeId} {xs : List Value} (h : w.ownsRow B t s (.slice (some ⟨g, 0, none⟩) n cap) n xs) : Ty w g t := by
  rcases h.2 with ⟨h0, _⟩ | ⟨g', cap', cur, hv, hbg, hg, hnc, hcm, hcs, htake⟩
  · cases h0
  · cases hv; exact ⟨_, _, hg⟩
/-- A name more. -/
theorem Fw.ins {n : Nat} {fi cnt : Nat → Nat} {p pos v : Nat} (h : Fw n fi cnt) (hp : p ≤ 12) (hv : 0 < v) (hf : Found n fi p pos false) : Fw (n + 1) (insF fi pos p) (upd cnt p v) := by
  obtain ⟨h1, h2, h3⟩ := h
  obtain ⟨f1, f2, f3, -, f5⟩ := hf
  have f5 := f5 rfl
  have hlt : ∀ k, pos ≤ k → k < n → p < fi k := fun k k1 k2 => by have := f3 k k1 k2; have := f5 k k2; omega
  refine ⟨fun a b hab hb => ?_, fun k hk => ?_, fun q hq hc => ?_⟩
  · unfold insF
    by_cases a1 : a < pos
    · rw [if_pos a1]
      by_cases b1 : b < pos
      · rw [if_pos b1]; exact h1 a b hab (by omega)
      · rw [if_neg b1]
        by_cases b2 : b = pos
        · rw [if_pos b2]; exact f2 a a1
        · rw [if_neg b2]; have := f2 a a1; have := hlt (b - 1) (by omega) (by omega); omega
    · rw [if_neg a1, if_neg (show ¬ b < pos by omega), if_neg (show ¬ b = pos by omega)]
      by_cases a2 : a = pos
      · rw [if_pos a2]; exact hlt _ (by omega) (by omega)
      · rw [if_neg a2]; exact h1 _ _ (by omega) (by omega)
  · unfold insF
    by_cases k1 : k < pos
    · rw [if_pos k1, upd_other _ _ (f5 k (by omega))]; exact h2 k (by omega)
    · rw [if_neg k1]
      by_cases k2 : k = pos
      · rw [if_pos k2, upd_same]; exact ⟨hp, hv⟩
      · rw [if_neg k2, upd_other _ _ (f5 (k - 1) (by omega))]; exact h2 _ (by omega)
  · by_cases e : q = p
    · exact ⟨pos, by omega, by simp [insF, e]⟩
    · rw [upd_other _ _ e] at hc
      obtain ⟨k, hk, hkq⟩ := h3 q hq hc
      by_cases k1 : k < pos
      · exact ⟨k, by omega, by simp [insF, k1, hkq]⟩
      · exact ⟨k + 1, by omega, by simp [insF, show ¬ k + 1 < pos by omega, show ¬ k + 1 = pos by omega, hkq]⟩
theorem Fw.same {n : Nat} {fi cnt : Nat → Nat} {p v : Nat} (h : Fw n fi cnt) (hv : 0 < v) (hc : 0 < cnt p) : Fw n fi (upd cnt p v) := by
  obtain ⟨h1, h2, h3⟩ := h
  refine ⟨h1, fun k hk => ⟨(h2 k hk).1, ?_⟩, fun q hq hc' => ?_⟩
  · unfold upd; split
    · exact hv
    · exact (h2 k hk).2
  · by_cases e : q = p
    · subst e; exact h3 q hq hc
    · rw [upd_other _ _ e] at hc'; exact h3 q hq hc'
theorem Fw.del {n n1 : Nat} {fi cnt : Nat → Nat} {p pos : Nat} (h : Fw n fi cnt) (hn : n1 + 1 = n) (hpos : pos < n) (hpp : fi pos = p) : Fw n1 (delF fi pos) (upd cnt p 0) := by
  obtain ⟨h1, h2, h3⟩ := h
  have hne : ∀ k, k < n → k ≠ pos → fi k ≠ p := fun k hk hkp e => by
    rcases Nat.lt_or_gt_of_ne hkp with h | h
    · have := h1 k pos h hpos; omega
    · have := h1 pos k h hk; omega
  refine ⟨fun a b hab hb => ?_, fun k hk => ?_, fun q hq hc => ?_⟩
  · unfold delF
    by_cases a1 : a < pos <;> by_cases b1 : b < pos
    · rw [if_pos a1, if_pos b1]; exact h1 _ _ hab (by omega)
    · rw [if_pos a1, if_neg b1]; exact h1 _ _ (by omega) (by omega)
    · omega
    · rw [if_neg a1, if_neg b1]; exact h1 _ _ (by omega) (by omega)
  · unfold delF
    by_cases k1 : k < pos
    · rw [if_pos k1, upd_other _ _ (hne k (by omega) (by omega))]; exact h2 k (by omega)
    · rw [if_neg k1, upd_other _ _ (hne (k + 1) (by omega) (by omega))]; exact h2 _ (by omega)
  · by_cases e : q = p
    · subst e; rw [upd_same] at hc; omega
    · rw [upd_other _ _ e] at hc
      obtain ⟨k, hk, hkq⟩ := h3 q hq hc
      have hkp : k ≠ pos := fun e' => by subst e'; omega
      by_cases k1 : k < pos
      · exact ⟨k, by omega, by simp [delF, k1, hkq]⟩
      · exact ⟨k - 1, by omega, by simp [delF, show ¬ k - 1 < pos by omega, show k - 1 + 1 = k by omega, hkq]⟩
set_option maxHeartbeats 400000 in
theorem set_map (w : World) (B L r m t : Nat) (h : Hdr) (D : DataW Unit) (cnt : Nat → Nat) (p v : Nat) (hp : p ≤ 12) (hv : 0 < v) (hv2 : v ≤ 100000) (hf : h.few = .slice none 0 0) (hm : h.many = .map (some r)) (hBr : B ≤ r) (hmt : m ≤ t) (ht : t ≤ 1000000) (hL : LineAt w L h) (hmap : w.ownsMap (H := Unit) Yba.prog 9 (plainElem Yba.prog 3) r m D) (hMp : Mp D cnt) :
    Calls Yba.prog 19 #[.pointer (some ⟨L, 4, none⟩), .string (nm p), .int .i64 v] w (SetPost w B L h (t + 10) (upd cnt p v)) := by
  have h5 : w.cell? ⟨L, 5, none⟩ = some (.map (some r)) := by rw [hL.cell 5]; simp [Hdr.arr, hm]
  have hlr : L ≠ r := by
    rintro rfl
    obtain ⟨es, cl, hb, -⟩ := hmap
    have hL' : w.heap[L]? = some (.cells h.arr 33 (0, 0)) := hL
    rw [hL'] at hb; cases hb
  have HM := hide hmap
  have HP := hide hMp
  have HL := hide hL
  clear hmap hMp hL
  have hky := key_nm p
  have hvv := val3 v hv2
  generalize hnm : nm p = b at *
  clear hnm
  have hq := neq27
  go_enter Yba.func19, Yba.ntmps19
  go_wp2_with (at_mapUpdate; go_must (refine wpList_mapUpdate_in _ rfl (.tmp 18) (.tmp 19) (.tmp 20) 27 rfl 9 3 law9 Yba.underlying27 _ r m D rfl HM.out (by unfold maxLen; omega) (.string b) (.int .i64 v) (kn p) rfl rfl hky (.lit (.int .i64 v)) [] hvv ?_); intro w1 hown1 hturn1)
  have hg := hturn1.grown
  have hk : Keep (Sc w B L) w w1 := (Keep.refl _ _).grown hg (fun k e => by
    injection e with e; subst e
    obtain ⟨es, cl, hb, -⟩ := HM.out
    exact .inl ⟨hBr, .inr (.inr ⟨es, cl, hb⟩)⟩)
  refine bodyPost_ret (v := .tuple #[]) (by simp [results, Yba.results19]) rfl ⟨_, h.few, h.many, rfl, ?_, .inr ⟨r, m + 1, _, hf, hm, hBr, by omega, hown1, HP.out.put hp hv⟩, hk⟩
  exact (hg.block L HL.out.ty.lt (fun e => hlr (by injection e))).trans HL.out
set_option maxHeartbeats 400000 in
theorem set_found (w : World) (B L n cap t : Nat) (pa : Option Addr) (h : Hdr) (fi cnt : Nat → Nat) (p v : Nat) (hp : p ≤ 12) (hv : 0 < v) (hf : h.few = .slice pa n cap) (hm : h.many = .map none) (hn : n ≤ 8) (hL : LineAt w L h)
    (hrow : w.ownsRow B 74 2 (.slice pa n cap) n (flatF n fi (fun k => cnt (fi k)))) (hfw : Fw n fi cnt) (hc : 0 < cnt p) :
    Calls Yba.prog 19 #[.pointer (some ⟨L, 4, none⟩), .string (nm p), .int .i64 v] w (SetPost w B L h (t + 10) (upd cnt p v)) := by
  have h4 : w.cell? ⟨L, 4, none⟩ = some (.slice pa n cap) := by rw [hL.cell 4]; simp [Hdr.arr, hf]
  have h5 : w.cell? ⟨L, 5, none⟩ = some (.map none) := by rw [hL.cell 5]; simp [Hdr.arr, hm]
  have hl := hL.ty.lt
  have hF := owns_few hrow (fun k hk => (hfw.2.1 k hk).1)
  have H := hide (find_any w L pa n cap fi (fun k => cnt (fi k)) p hp (by omega) hF hfw.1 h4)
  have HF := hide hF
  have HW := hide hfw
  have HL := hide hL
  have HR := hide hrow
  clear hF hfw hrow hL
  have hq := neq27
  generalize hnm : nm p = b at *
  clear hnm
  go_enter Yba.func19, Yba.ntmps19
  go_upto_region 11 with (go_at_call 16; go_must (refine H.out.mono ?_); rintro _ w1 ⟨pos, fd, rfl, hb1, hfd⟩; have HFD := hide hfd; clear hfd)
  obtain ⟨k0, hk0, hkp0⟩ := HW.out.2.2 p hp hc
  obtain rfl : fd = true := by
    cases fd
    · exact absurd hkp0 (HFD.out.2.2.2.2 rfl k0 hk0)
    · rfl
  obtain ⟨hpos, hpp⟩ := HFD.out.2.2.2.1 rfl
  obtain ⟨g, rfl, hg, hk12, hk1, hk2⟩ := (HF.out.later hb1) pos hpos
  have HR1 := hide (owns_keep HR.out ((Keep.refl (fun _ => False) _).below hb1) (fun _ _ h => h))
  have hfz : w1.frozen? ⟨g, pos * 2 + 1, none⟩ = false := (owns_shape HR1.out).1.frozen _
  have hposI : (pos : Int) < n := by omega
  have h4' := (hb1.cell (p := ⟨L, 4, none⟩) hl).trans h4
  have HS := hide (HR1.out.stored (pos * 2 + 1) (.int .i64 v))
  have HTY := hide (ty_of_owns HR.out)
  have HBG := hide (owns_shape HR.out).2.2.2.1
  clear hk1
  go_wp2_with fail
  have hkeep : Keep (Sc w B L) w (w1.setCell ⟨g, pos * 2 + 1, none⟩ (.int .i64 v)) := ((Keep.refl _ _).below hb1).setCell (p := ⟨g, pos * 2 + 1, none⟩) (.inl ⟨HBG.out, .inr (.inl HTY.out)⟩) _
  refine bodyPost_end (v := .tuple #[]) (by simp [results, Yba.results19]) rfl ⟨_, h.few, h.many, rfl, ?_, .inl ⟨_, n, cap, fi, hf, hm, hn, ?_, HW.out.same hv hc⟩, hkeep⟩
  · exact (Below.heap_setCell _ _ _ _ (by show L ≠ g; exact HL.out.ty.ne HTY.out (by decide))).trans ((hb1.block L hl).trans HL.out)
  · have hst := HS.out.1
    have e : (flatF n fi fun k => (cnt (fi k) : Int)).set (pos * 2 + 1) (.int .i64 v) = flatF n fi fun k => ((upd cnt p v (fi k) : Nat) : Int) := by
      refine flatF_eq (by simp [flatF_length]) (fun k hk => ?_)
      obtain ⟨a, b⟩ := flatF_at n fi (fun k => (cnt (fi k) : Int)) k hk
      have hl2 := flatF_length n fi (fun k => (cnt (fi k) : Int))
      by_cases e1 : k = pos
      · subst e1
        refine ⟨by rw [List.getElem?_set_ne (by omega)]; exact a, ?_⟩
        rw [List.getElem?_set_self (by rw [hl2]; omega), hpp, upd_same]
      · refine ⟨by rw [List.getElem?_set_ne (by omega)]; exact a, ?_⟩
        rw [List.getElem?_set_ne (by omega), b, upd_other]
        intro e2
        rcases Nat.lt_or_gt_of_ne e1 with h1 | h1
        · have := HW.out.1 k pos h1 hpos; omega
        · have := HW.out.1 pos k h1 hk; omega
    rw [e] at hst
    exact hst
end Go.Proofs.Ybulkcnwo
