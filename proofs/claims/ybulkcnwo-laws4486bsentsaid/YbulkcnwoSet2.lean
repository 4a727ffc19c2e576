import Derived.Test.YbulkcnwoSet
namespace Go.Proofs.Ybulkcnwo
open Go.RowKit
set_option maxHeartbeats 400000 in
theorem set_insert (w : World) (B L n cap t : Nat) (pa : Option Addr) (h : Hdr) (fi cnt : Nat → Nat) (p v : Nat) (hp : p ≤ 12) (hv : 0 < v) (hf : h.few = .slice pa n cap) (hm : h.many = .map none) (hn : n < 8) (hL : LineAt w L h) (hBL : B ≤ L)
    (hrow : w.ownsRow B 74 2 (.slice pa n cap) n (flatF n fi (fun k => cnt (fi k)))) (hfw : Fw n fi cnt) (hc : cnt p = 0) :
    Calls Yba.prog 19 #[.pointer (some ⟨L, 4, none⟩), .string (nm p), .int .i64 v] w (SetPost w B L h (t + 10) (upd cnt p v)) := by
  have h4 : w.cell? ⟨L, 4, none⟩ = some (.slice pa n cap) := by rw [hL.cell 4]; simp [Hdr.arr, hf]
  have h5 : w.cell? ⟨L, 5, none⟩ = some (.map none) := by rw [hL.cell 5]; simp [Hdr.arr, hm]
  have hl := hL.ty.lt
  have hF := owns_few hrow (fun k hk => (hfw.2.1 k hk).1)
  have H := hide (find_any w L pa n cap fi (fun k => cnt (fi k)) p hp (by omega) hF hfw.1 h4)
  have HW := hide hfw
  have HL := hide hL
  have HR := hide hrow
  clear hF hfw hrow hL
  have hq := neq27
  have HI := hide fun (w : World) (pos vb : Nat) (hi : pos ≤ n) hown hne hB hv' => insert_any w B pa n cap pos vb _ (nm p) v (by omega) hi (flatF_oneCell n fi (fun k => cnt (fi k))) hown hne hB hv'
  have HFI := hide fun pos hi => flatF_ins n fi (fun k => (cnt (fi k) : Int)) pos p (v : Int) hi
  generalize hnm : nm p = b at *
  clear hnm
  go_enter Yba.func19, Yba.ntmps19
  go_upto_region 11 with (go_at_call 16; go_must (refine H.out.mono ?_); rintro _ w1 ⟨pos, fd, rfl, hb1, hfd⟩; have HFD := hide hfd; clear hfd)
  obtain rfl : fd = false := by
    cases fd
    · rfl
    · obtain ⟨hpos, hpp⟩ := HFD.out.2.2.2.1 rfl
      have := (HW.out.2.1 pos hpos).2
      rw [hpp] at this; omega
  have h4' := (hb1.cell (p := ⟨L, 4, none⟩) hl).trans h4
  have hl1 : L < w1.heap.size := Nat.lt_of_lt_of_le hl hb1.size
  have hf4 : w1.frozen? ⟨L, 4, none⟩ = false := (hb1.frozen (p := ⟨L, 4, none⟩) hl).trans (HL.out.frozen 4)
  have HR1 := hide (owns_keep HR.out ((Keep.refl (fun _ => False) _).below (hb1.trans (((Below.refl _ _).alloc (Nat.le_refl _) (.cells #[.string b, .int .i64 v] 74)).mono hb1.size))) (fun _ _ h => h))
  have hnI : (n : Int) < 8 := by omega
  have hposI : (pos : Int) ≤ n := by have := HFD.out.1; omega
  go_wp2_with (first | (go_at_call 26; go_must (refine (HI.out _ pos w1.heap.size HFD.out.1 HR1.out (fun g hg => by subst hg; have := (HR.out.lt g rfl).2; have := hb1.size; omega) (by have := hb1.size; have := HL.out.ty.lt; simp; omega) new_block).mono ?_); rintro _ w2 ⟨g', cap', rfl, hown2, hk2⟩; have hLn : ¬ (pa = some ⟨L, 0, none⟩) := fun e => (by subst e; exact HL.out.ty.ne (ty_of_owns HR.out) (by decide) rfl); have HL2 : Hid (LineAt w2 L h) := (hk2.block L (show L < (w1.alloc _).heap.size from (by simp; omega)) hLn).trans ((Below.heap_alloc _ _ _ hl1).trans ((hb1.block L hl).trans HL.out)); have c4 : w2.cell? ⟨L, 4, none⟩ = some (.slice pa n cap) := (HL2.out.cell 4).trans (congrArg some hf); have f4 := HL2.out.frozen 4; have HO2 := hide hown2; have HK2 := hide hk2; clear hown2 hk2))
  have hkeep : Keep (Sc w B L) w (w2.setCell ⟨L, 4, none⟩ (.slice (some ⟨g', 0, none⟩) (n + 1) cap')) :=
    ((((Keep.refl (Sc w B L) w).below hb1).alloc _).trans' HK2.out (fun x hx e => by
      subst e
      exact ⟨(owns_shape HR.out).2.2.2.1, .inr (.inl (ty_of_owns HR.out))⟩)).setCell (p := ⟨L, 4, none⟩) (.inl ⟨hBL, .inl rfl⟩) _
  refine bodyPost_end (v := .tuple #[]) (by simp [results, Yba.results19]) rfl ⟨_, .slice (some ⟨g', 0, none⟩) (n + 1) cap', h.many, rfl, HL2.out.setFew _, .inl ⟨_, n + 1, cap', insF fi pos p, rfl, hm, by omega, ?_, HW.out.ins hp hv HFD.out⟩, hkeep⟩
  have hst := HO2.out
  rw [HFI.out pos HFD.out.1] at hst
  have e : flatF (n + 1) (insF fi pos p) (insF (fun k => (cnt (fi k) : Int)) pos (v : Int)) = flatF (n + 1) (insF fi pos p) fun k => ((upd cnt p v (insF fi pos p k) : Nat) : Int) := by
    refine flatF_eq (flatF_length _ _ _) (fun k hk => ?_)
    obtain ⟨a1, a2⟩ := flatF_at (n + 1) (insF fi pos p) (insF (fun k => (cnt (fi k) : Int)) pos (v : Int)) k hk
    refine ⟨a1, a2.trans ?_⟩
    congr 2
    unfold insF
    by_cases k1 : k < pos
    · rw [if_pos k1, if_pos k1, upd_other _ _ (HFD.out.2.2.2.2 rfl k (by have := HFD.out.1; omega))]
    · rw [if_neg k1, if_neg k1]
      by_cases k2 : k = pos
      · rw [if_pos k2, if_pos k2, upd_same]
      · rw [if_neg k2, if_neg k2, upd_other _ _ (HFD.out.2.2.2.2 rfl (k - 1) (by omega))]
  rw [e] at hst
  refine owns_keep hst ((Keep.refl (fun k => k = L) _).setCell (p := ⟨L, 4, none⟩) (.inl rfl) _) (fun g hg e => ?_)
  simp [Value.ownBlock] at hg
  subst hg
  exact HL2.out.ty.ne (ty_of_owns HO2.out) (by decide) e.symm
end Go.Proofs.Ybulkcnwo
