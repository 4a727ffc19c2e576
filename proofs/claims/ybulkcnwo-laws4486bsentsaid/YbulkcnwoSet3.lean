import Derived.Test.YbulkcnwoSet2
namespace Go.Proofs.Ybulkcnwo
open Go.RowKit
/-- m[k] = v as one step of a region that draws. -/
theorem step_mapUpdate {P : Program} {H : Type} {ops : Array Oper} {o : Oper} {a : Act} {w : World} {K' : Act → World → Prop} {Q : Exit → Act → World → Prop} {E : Prop}
    (hg : o.guard = none) (m x v : Operand) (t : TypeId) (hop : o.op = Op.mapUpdate t m x v)
    (k e : TypeId) (K : Maps.Keyed P k) (ht : P.underlying t = some (.map k e)) (R : Value → Option (DataW H × List MemPlace)) (b n : Nat) (D : DataW H)
    (hm : a.eval m = .map (some b)) (hown : w.ownsMap P k R b n D) (hn : n < maxLen) (key val : Value) (kl : Lit) (hx : a.eval x = key) (hv : a.eval v = val) (hkey : keyOf P k key = some kl)
    (d : DataW H) (ps : List MemPlace) (hval : R val = some (d, ps))
    (hK : ∀ w', w'.ownsMap P k R b (n + 1) (D.put kl d) → w.mapTurned w' b → K' (a.put o.dst undef) w') :
    if Region.wanted o (yielded ops a.tmps) = true then Oper.wp P o a w K' Q else E := by
  have hw : Region.wanted o (yielded ops a.tmps) = true := by simp [Region.wanted, hg]
  rw [if_pos hw]
  obtain ⟨w', hrun, r1, r2⟩ := hown.store K ht hn hkey hval
  unfold Oper.wp
  simp [execOp, hop, hm, hx, hv, hrun, Result.andThen]
  exact hK w' r1 r2
/-- The counts of the first k names. -/
def cntK (fi cnt : Nat → Nat) : Nat → Nat → Nat
  | 0 => fun _ => 0
  | k + 1 => upd (cntK fi cnt k) (fi k) (cnt (fi k))
theorem cntK_in {fi cnt : Nat → Nat} : ∀ k q, (∃ j, j < k ∧ fi j = q) → cntK fi cnt k q = cnt q
  | 0, q, ⟨j, hj, _⟩ => by omega
  | k + 1, q, ⟨j, hj, hq⟩ => by
    by_cases e : q = fi k
    · subst e; simp [cntK, upd]
    · rw [cntK, upd_other _ _ e]
      exact cntK_in k q ⟨j, by rcases Nat.lt_or_ge j k with h | h; exact h; exact absurd (by rw [← hq]; congr 1; omega) e, hq⟩
theorem cntK_out {fi cnt : Nat → Nat} : ∀ k q, (∀ j, j < k → fi j ≠ q) → cntK fi cnt k q = 0
  | 0, _, _ => rfl
  | k + 1, q, h => by
    rw [cntK, upd_other _ _ (fun e => h k (by omega) e.symm)]
    exact cntK_out k q (fun j hj => h j (by omega))
theorem cntK_all {n : Nat} {fi cnt : Nat → Nat} (h : Fw n fi cnt) (q : Nat) (hq : q ≤ 12) : cntK fi cnt n q = cnt q := by
  by_cases e : ∃ j, j < n ∧ fi j = q
  · exact cntK_in n q e
  · rw [cntK_out n q (fun j hj hjq => e ⟨j, hj, hjq⟩)]
    rcases Nat.eq_zero_or_pos (cnt q) with h0 | h0
    · exact h0.symm
    · exact absurd (h.2.2 q hq h0) e
theorem Mp.congr {D : DataW Unit} {c c' : Nat → Nat} (h : Mp D c) (he : ∀ q, q ≤ 12 → c q = c' q) : Mp D c' := ⟨h.1, fun q hq => by rw [← he q hq]; exact h.2 q hq⟩
theorem Mp.empty : Mp (.map []) (fun _ => 0) := ⟨Maps.isMap_empty, fun _ _ => ⟨rfl, rfl⟩⟩
theorem make27 (w : World) : (Instr.makeMap 27 (some (.int .i64 16))).run Yba.prog w = .ok (.map (some w.heap.size)) (w.alloc (.map #[] 0)) := rfl
def S5 (L r bx : Nat) (b : ByteArray) (c : Int) (w' : World) : Prop := w'.cell? ⟨L, 5, none⟩ = some (.map (some r)) ∧ w'.cell? ⟨bx, 0, none⟩ = some (.string b) ∧ w'.cell? ⟨bx, 1, none⟩ = some (.int .i64 c)
set_option maxHeartbeats 400000 in
theorem set_grow (w : World) (B L n cap t : Nat) (pa : Option Addr) (h : Hdr) (fi cnt : Nat → Nat) (p v : Nat) (hp : p ≤ 12) (hv : 0 < v) (hv2 : v ≤ 100000) (hcb : ∀ q, cnt q ≤ 100000) (hf : h.few = .slice pa n cap) (hm : h.many = .map none) (hn : n = 8) (hL : LineAt w L h) (hBL : B ≤ L)
    (hrow : w.ownsRow B 74 2 (.slice pa n cap) n (flatF n fi (fun k => cnt (fi k)))) (hfw : Fw n fi cnt) (hc : cnt p = 0) :
    Calls Yba.prog 19 #[.pointer (some ⟨L, 4, none⟩), .string (nm p), .int .i64 v] w (SetPost w B L h (t + 10) (upd cnt p v)) := by
  have h4 : w.cell? ⟨L, 4, none⟩ = some (.slice pa n cap) := by rw [hL.cell 4]; simp [Hdr.arr, hf]
  have h5 : w.cell? ⟨L, 5, none⟩ = some (.map none) := by rw [hL.cell 5]; simp [Hdr.arr, hm]
  have hl := hL.ty.lt
  have hF := owns_few hrow (fun k hk => (hfw.2.1 k hk).1)
  have H := hide (find_any w L pa n cap fi (fun k => cnt (fi k)) p hp (by omega) hF hfw.1 h4)
  have HF := hide hF
  have HW := hide hfw
  have HL := hide hL
  have HR := hide hrow
  clear hF hfw hrow hL
  have hq := neq27
  have hky := key_nm p
  have hvv := val3 v hv2
  generalize hnm : nm p = b at *
  clear hnm
  go_enter Yba.func19, Yba.ntmps19
  go_upto_region 11 with (go_at_call 16; go_must (refine H.out.mono ?_); rintro _ w1 ⟨pos, fd, rfl, hb1, hfd⟩; have HFD := hide hfd; clear hfd)
  obtain rfl : fd = false := by
    cases fd
    · rfl
    · obtain ⟨hpos, hpp⟩ := HFD.out.2.2.2.1 rfl
      have := (HW.out.2.1 pos hpos).2
      rw [hpp] at this; omega
  have h4' := (hb1.cell (p := ⟨L, 4, none⟩) hl).trans h4
  have h5' := (hb1.cell (p := ⟨L, 5, none⟩) hl).trans h5
  have hl1 : L < w1.heap.size := Nat.lt_of_lt_of_le hl hb1.size
  have hf5 : w1.frozen? ⟨L, 5, none⟩ = false := (hb1.frozen (p := ⟨L, 5, none⟩) hl).trans (HL.out.frozen 5)
  have hnI : ¬ (n : Int) < 8 := by omega
  have hmk := make27
  go_wp2_with fail
  clear hmk
  obtain ⟨r, hr⟩ : ∃ r, r = w1.heap.size := ⟨_, rfl⟩
  have hzX : (w1.setCell ⟨L, 5, none⟩ (.map (some r))).heap.size = r := by rw [hr]; simp [World.setCell]
  have HL2 : Hid (LineAt ((w1.setCell ⟨L, 5, none⟩ (.map (some r))).alloc (.map #[] 0)) L { h with many := .map (some r) }) := (Below.heap_alloc _ _ _ (by rw [hzX, hr]; exact hl1)).trans (LineAt.setMany ((hb1.block L hl).trans HL.out) _)
  have HM2 : Hid (((w1.setCell ⟨L, 5, none⟩ (.map (some r))).alloc (.map #[] 0)).ownsMap (H := Unit) Yba.prog 9 (plainElem Yba.prog 3) r 0 (.map [])) := by
    have := World.ownsMap_made (H := Unit) (w1.setCell ⟨L, 5, none⟩ (.map (some r))) Yba.prog 9 (plainElem Yba.prog 3)
    rwa [hzX] at this
  have HK2 : Hid (Keep (Sc w B L) w ((w1.setCell ⟨L, 5, none⟩ (.map (some r))).alloc (.map #[] 0))) := (((Keep.refl (Sc w B L) w).below hb1).setCell (p := ⟨L, 5, none⟩) (.inl ⟨hBL, .inl rfl⟩) _).alloc _
  have HF2 : Hid (FewC ((w1.setCell ⟨L, 5, none⟩ (.map (some r))).alloc (.map #[] 0)) pa n fi (fun k => cnt (fi k))) := by
    refine owns_few (owns_keep HR.out ((((Keep.refl (fun k => k = L) w).below hb1).setCell (p := ⟨L, 5, none⟩) (.inl rfl) _).alloc _) (fun g hg e => ?_)) (fun k hk => (HW.out.2.1 k hk).1)
    subst e
    cases pa with
    | none => simp [Value.ownBlock] at hg
    | some a =>
      have hlt := HR.out
      rcases hlt.2 with ⟨h0, _⟩ | ⟨g', cap', cur, hv', -⟩
      · cases h0
      · simp only [Value.slice.injEq, Option.some.injEq, true_and] at hv'
        obtain ⟨rfl, rfl⟩ := hv'
        simp [Value.ownBlock] at hg
        subst hg
        exact HL.out.ty.ne (ty_of_owns HR.out) (by decide) rfl
  have hrw : w.heap.size ≤ r := by rw [hr]; exact hb1.size
  rw [← hr]
  generalize World.alloc _ _ = W2 at HL2 HM2 HK2 HF2 ⊢
  clear hzX hr h4' h5' hf5 hl1 hb1 h4 h5 H HFD
  have hLr : L ≠ r := by omega
  go_loopw [36] (fun i wr => ∃ (k : Nat) (D : DataW Unit), k ≤ n ∧ i = .int .i64 k ∧ Keep (fun x => x = r) W2 wr ∧ Hid (wr.ownsMap (H := Unit) Yba.prog 9 (plainElem Yba.prog 3) r k D) ∧ Hid (Mp D (cntK fi cnt k))) (fun i _ => n - (intOf i).toNat)
  case atStart => exact ⟨0, _, Nat.zero_le _, rfl, Keep.refl _ _, HM2, Mp.empty⟩
  case round =>
    obtain ⟨k, D, hk, rfl, hK, HMD, HMp⟩ := hrel
    have HLr : Hid (LineAt wr L { h with many := .map (some r) }) := HL2.out.keep hK hLr
    have c5 : wr.cell? ⟨L, 5, none⟩ = some (.map (some r)) := HLr.out.cell 5
    have hlw := HLr.out.ty.lt
    have hrl := HMD.out.lt
    by_cases hlt : k < n
    · obtain ⟨g, rfl, hg, hk12, hk1, hk2⟩ := HF2.out k hlt
      have hgr : g ≠ r := by
        rintro rfl
        obtain ⟨es, cl, hb, -⟩ := HM2.out
        simp [World.cell?, hb] at hk1
      have hk1' := (hK.cell (p := ⟨g, k * 2, none⟩) hg hgr).trans hk1
      have hk2' := (hK.cell (p := ⟨g, k * 2 + 1, none⟩) hg hgr).trans hk2
      have hgl : g < wr.heap.size := Nat.lt_of_lt_of_le hg hK.size
      have hcc := (HW.out.2.1 k hlt).2
      have hky2 := key_nm (fi k)
      have hvv2 := val3 (cnt (fi k)) (hcb _)
      have HPT := hide (HMp.out.put hk12 hcc)
      have hltI : (k : Int) < n := by omega
      generalize hnm : nm (fi k) = a at *
      clear hnm hk1 hk2
      go_wp2_with fail
      have HMB : Hid ((wr.alloc (.cells #[.string a, .int .i64 (cnt (fi k))] 74)).drew.ownsMap (H := Unit) Yba.prog 9 (plainElem Yba.prog 3) r k D) := (HMD.out.alloc _).drew
      have hS0 : S5 L r wr.heap.size a (cnt (fi k)) (wr.alloc (.cells #[.string a, .int .i64 (cnt (fi k))] 74)).drew := ⟨by simp [go_sem, hlw, c5], by simp [go_sem], by simp [go_sem]⟩
      refine wp_region_held_drew (S := S5 L r wr.heap.size a (cnt (fi k))) (by kernel_rfl) hS0 (fun _ => ?_)
      refine wpAnyH_take (i := 0) (oi := { dst := some 40, op := Op.move (Operand.tmp 0), type := 72, pos := _, after := #[], guard := none }) (v := .pointer (some ⟨L, 4, none⟩)) rfl (by kernel_rfl) (by kernel_rfl) (by kernel_rfl) (fun _ _ _ h => h) (Or.inl ⟨by rfl, ?_⟩) hS0 ?_
      · intro w hSw; obtain ⟨s1, s2, s3⟩ := hSw; go_simp
      simp only [Act.put, List.setIfInBounds_toArray, List.set_cons_zero, List.set_cons_succ]
      refine wpAnyH_take (i := 1) (oi := { dst := some 41, op := Op.nilCheck (Operand.tmp 40), type := 0, pos := _, after := #[{ on := 0, ground := Ground.data }], guard := none }) (v := .pointer (some ⟨L, 4, none⟩)) rfl (by kernel_rfl) (by kernel_rfl) (by kernel_rfl) (fun _ _ _ h => h) (Or.inl ⟨by rfl, ?_⟩) hS0 ?_
      · intro w hSw; obtain ⟨s1, s2, s3⟩ := hSw; go_simp
      simp only [Act.put, List.setIfInBounds_toArray, List.set_cons_zero, List.set_cons_succ]
      refine wpAnyH_take (i := 2) (oi := { dst := some 42, op := Op.fieldAddr 29 (Operand.tmp 41) 1, type := 0, pos := _, after := #[{ on := 1, ground := Ground.data }], guard := none }) (v := .pointer (some ⟨L, 5, none⟩)) rfl (by kernel_rfl) (by kernel_rfl) (by kernel_rfl) (fun _ _ _ h => h) (Or.inl ⟨by rfl, ?_⟩) hS0 ?_
      · intro w hSw; obtain ⟨s1, s2, s3⟩ := hSw; go_simp
      simp only [Act.put, List.setIfInBounds_toArray, List.set_cons_zero, List.set_cons_succ]
      refine wpAnyH_take (i := 3) (oi := { dst := some 43, op := Op.load 27 (Operand.tmp 42), type := 27, pos := _, after := #[{ on := 2, ground := Ground.data }], guard := none }) (v := .map (some r)) rfl (by kernel_rfl) (by kernel_rfl) (by kernel_rfl) (fun _ _ _ h => h) (Or.inl ⟨by rfl, ?_⟩) hS0 ?_
      · intro w hSw; obtain ⟨s1, s2, s3⟩ := hSw; go_simp
      simp only [Act.put, List.setIfInBounds_toArray, List.set_cons_zero, List.set_cons_succ]
      refine wpAnyH_take (i := 4) (oi := { dst := some 44, op := Op.fieldAddr 74 (Operand.tmp 9) 0, type := 0, pos := _, after := #[], guard := none }) (v := .pointer (some ⟨wr.heap.size, 0, none⟩)) rfl (by kernel_rfl) (by kernel_rfl) (by kernel_rfl) (fun _ _ _ h => h) (Or.inl ⟨by rfl, ?_⟩) hS0 ?_
      · intro w hSw; obtain ⟨s1, s2, s3⟩ := hSw; go_simp
      simp only [Act.put, List.setIfInBounds_toArray, List.set_cons_zero, List.set_cons_succ]
      refine wpAnyH_take (i := 5) (oi := { dst := some 45, op := Op.load 9 (Operand.tmp 44), type := 9, pos := _, after := #[{ on := 4, ground := Ground.data }], guard := none }) (v := .string a) rfl (by kernel_rfl) (by kernel_rfl) (by kernel_rfl) (fun _ _ _ h => h) (Or.inl ⟨by rfl, ?_⟩) hS0 ?_
      · intro w hSw; obtain ⟨s1, s2, s3⟩ := hSw; go_simp
      simp only [Act.put, List.setIfInBounds_toArray, List.set_cons_zero, List.set_cons_succ]
      refine wpAnyH_take (i := 6) (oi := { dst := some 46, op := Op.fieldAddr 74 (Operand.tmp 9) 1, type := 0, pos := _, after := #[], guard := none }) (v := .pointer (some ⟨wr.heap.size, 1, none⟩)) rfl (by kernel_rfl) (by kernel_rfl) (by kernel_rfl) (fun _ _ _ h => h) (Or.inl ⟨by rfl, ?_⟩) hS0 ?_
      · intro w hSw; obtain ⟨s1, s2, s3⟩ := hSw; go_simp
      simp only [Act.put, List.setIfInBounds_toArray, List.set_cons_zero, List.set_cons_succ]
      refine wpAnyH_take (i := 7) (oi := { dst := some 47, op := Op.load 3 (Operand.tmp 46), type := 3, pos := _, after := #[{ on := 6, ground := Ground.data }], guard := none }) (v := .int .i64 (cnt (fi k))) rfl (by kernel_rfl) (by kernel_rfl) (by kernel_rfl) (fun _ _ _ h => h) (Or.inl ⟨by rfl, ?_⟩) hS0 ?_
      · intro w hSw; obtain ⟨s1, s2, s3⟩ := hSw; go_simp
      simp only [Act.put, List.setIfInBounds_toArray, List.set_cons_zero, List.set_cons_succ]
      refine wpAnyH_ready (rs := [8]) (by kernel_rfl) (by simp) ?_
      refine AllReadyH.cons (o := _) rfl (fun K hKK => ?_) AllReadyH.nil
      refine step_mapUpdate rfl (.tmp 43) (.tmp 45) (.tmp 47) 27 rfl 9 3 law9 Yba.underlying27 _ r k D rfl HMB.out (by unfold maxLen; omega) (.string a) (.int .i64 (cnt (fi k))) (kn (fi k)) rfl rfl hky2 (.lit (.int .i64 (cnt (fi k)))) [] hvv2 ?_
      intro w5 hown5 hturn5
      have hg5 := hturn5.grown
      have HO5 := hide hown5
      have hK5 : Keep (fun x => x = r) W2 w5 := ((hK.alloc _).drew).grown hg5 (fun x e => by injection e with e; exact .inl e.symm)
      refine hKK.out _ _ ?_ (fun _ => ?_)
      · have b1 : w5.heap[L]? = (wr.alloc (.cells #[.string a, .int .i64 (cnt (fi k))] 74)).heap[L]? := hg5.block L (by show L < (wr.alloc _).heap.size; simp; omega) (fun e => hLr (by injection e))
        have b2 : w5.heap[wr.heap.size]? = (wr.alloc (.cells #[.string a, .int .i64 (cnt (fi k))] 74)).heap[wr.heap.size]? := hg5.block wr.heap.size (by show wr.heap.size < (wr.alloc _).heap.size; simp) (fun e => by injection e; omega)
        exact ⟨(World.cell?_of_block (a := ⟨L, 5, none⟩) b1).trans hS0.1, (World.cell?_of_block (a := ⟨wr.heap.size, 0, none⟩) b2).trans hS0.2.1, (World.cell?_of_block (a := ⟨wr.heap.size, 1, none⟩) b2).trans hS0.2.2⟩
      clear hKK K hown5 hturn5 hg5 hS0
      simp only [Act.put, List.setIfInBounds_toArray]
      refine wpAnyH_done (by kernel_rfl) ?_ _
      go_wp2_with fail
      go_roundw
      case rel => exact ⟨k + 1, _, by omega, by go_num, hK5, HO5, HPT⟩
      case measure => simp [intOf]; omega
    · obtain rfl : n = k := by omega
      have f4 := HLr.out.frozen 4
      have c4 : wr.cell? ⟨L, 4, none⟩ = some (.slice pa n cap) := (HLr.out.cell 4).trans (congrArg some hf)
      have HMq := hide (HMp.out.congr (fun q hq => cntK_all HW.out q hq))
      go_wp2_with (at_mapUpdate; go_must (refine wpList_mapUpdate_in _ rfl (.tmp 52) (.tmp 53) (.tmp 54) 27 rfl 9 3 law9 Yba.underlying27 _ r n D rfl HMD.out (by unfold maxLen; omega) (.string b) (.int .i64 v) (kn p) rfl rfl hky (.lit (.int .i64 v)) [] hvv ?_); intro w5 hown5 hturn5; have hg5 := hturn5.grown; have HO5 := hide hown5; have HL5 : Hid (LineAt w5 L { h with many := .map (some r) }) := (hg5.block L hlw (fun e => hLr (by injection e))).trans HLr.out; have c45 : w5.cell? ⟨L, 4, none⟩ = some (.slice pa n cap) := (HL5.out.cell 4).trans (congrArg some hf); have f45 := HL5.out.frozen 4; have hl5 := HL5.out.ty.lt; have HG5 := hide hg5; clear hown5 hturn5 hg5)
      have hK6 : Keep (Sc w B L) w (w5.setCell ⟨L, 4, none⟩ (.slice none 0 0)) := ((HK2.out.trans' hK (fun x hx e => absurd hx (by omega))).grown HG5.out (fun x e => .inr (by injection e with e; omega))).setCell (p := ⟨L, 4, none⟩) (.inl ⟨hBL, .inl rfl⟩) _
      refine bodyPost_end (v := .tuple #[]) (by simp [results, Yba.results19]) rfl ⟨_, .slice none 0 0, .map (some r), rfl, HL5.out.setFew _, .inr ⟨r, n + 1, _, rfl, rfl, by omega, by omega, HO5.out.setCell (Ne.symm hLr) _, HMq.out.put hp hv⟩, hK6⟩
end Go.Proofs.Ybulkcnwo
