import Derived.Test.YbulkcnwoCnt
namespace Go.Proofs.Ybulkcnwo
open Go.RowKit
theorem nm_size (p : Nat) : (nm p).size ≤ maxLen := by
  cases p with
  | zero => exact Nat.zero_le _
  | succ i => show 1 ≤ _; unfold maxLen; omega
theorem key_nm (p : Nat) : keyOf Yba.prog 9 (.string (nm p)) = some (kn p) := WideMaps.keyOf_string_mk Yba.underlying9 (nm_size p)
theorem neq27 (r : Option Nat) (w : World) : (binOp .neq 27 (.map r) (.map none)).run Yba.prog w = .ok (.bool (!r.isNone)) w := by
  rw [Go.run_neq_map_nil w 27 9 3 r Yba.underlying27]
set_option maxHeartbeats 400000 in
theorem get_any (w : World) (B L : Nat) (few many : Value) (t : Nat) (cnt : Nat → Nat) (p : Nat) (hp : p ≤ 12) (hC : CountAt w B few many t cnt) (hl : L < w.heap.size) (h4 : w.cell? ⟨L, 4, none⟩ = some few) (h5 : w.cell? ⟨L, 5, none⟩ = some many) :
    Calls Yba.prog 8 #[.pointer (some ⟨L, 4, none⟩), .string (nm p)] w fun e w' => e = .returned (.tuple #[.int .i64 (cnt p), .bool (decide (0 < cnt p))]) ∧ Below w.heap.size w w' := by
  rcases hC with ⟨pa, n, cap, fi, rfl, rfl, hn, hrow, hfw⟩ | ⟨r, m, D, rfl, rfl, hBr, hm, hmap, hMp⟩
  · have hF := owns_few hrow (fun k hk => (hfw.2.1 k hk).1)
    have H := hide (find_any w L pa n cap fi (fun k => cnt (fi k)) p hp (by omega) hF hfw.1 h4)
    have HF := hide hF
    have HW := hide hfw
    clear hF hfw hrow
    generalize hnm : nm p = b at *
    clear hnm
    have hq := neq27
    go_enter Yba.func8, Yba.ntmps8
    go_upto_region 5 with (go_at_call 16; go_must (refine H.out.mono ?_); rintro _ w1 ⟨pos, fd, rfl, hb1, hfd⟩; have HFD := hide hfd; clear hfd)
    cases fd
    · have hz : cnt p = 0 := by
        rcases Nat.eq_zero_or_pos (cnt p) with h | h
        · exact h
        · obtain ⟨k, hk, hkp⟩ := HW.out.2.2 p hp h
          exact absurd hkp (HFD.out.2.2.2.2 rfl k hk)
      have HZ := hide hz
      clear hz
      go_wp2_with fail
      go_ret2
      exact ⟨by simp [HZ.out], hb1⟩
    · obtain ⟨hpos, hpp⟩ := HFD.out.2.2.2.1 rfl
      obtain ⟨g, rfl, hg, hk12, hk0, hk1⟩ := (HF.out.later hb1) pos hpos
      have hc := (HW.out.2.1 pos hpos).2
      simp only [hpp] at hk1 hc
      have hposI : (pos : Int) < n := by omega
      have h4' := (hb1.cell (p := ⟨L, 4, none⟩) hl).trans h4
      clear hpp hk0
      go_wp2_with fail
      go_ret2
      exact ⟨by simp [hc], hb1⟩
  · have hat := hMp.2 p hp
    have HM := hide hmap
    clear hmap hMp
    have hky := key_nm p
    generalize hnm : nm p = b at *
    clear hnm
    have hq := neq27
    go_enter Yba.func8, Yba.ntmps8
    go_wp2_with (at_lookup; go_must (refine wpList_lookup_own_ok_int _ rfl (.tmp 20) (.tmp 21) 27 rfl 9 3 .i64 law9 Yba.underlying27 Yba.underlying3 (zero3 _) r m D rfl HM.out (.string b) (kn p) rfl hky ?_); intro c hcat hcw)
    have hcc : c = cnt p := by
      have := hcat.symm.trans hat.2
      simpa using this
    go_ret2
    exact ⟨by simp [hcc], Below.refl _ _⟩
def MB (w : World) (k : Nat) : Prop := ∃ es cl, w.heap[k]? = some (.map es cl)
/-- The blocks that the counting may turn. -/
def Sc (w : World) (B L k : Nat) : Prop := B ≤ k ∧ (k = L ∨ Ty w k 74 ∨ MB w k)
def SetPost (w : World) (B L : Nat) (h : Hdr) (t : Nat) (cnt' : Nat → Nat) (e : Ending) (w' : World) : Prop :=
  ∃ v few' many', e = .returned v ∧ LineAt w' L { h with few := few', many := many' } ∧ CountAt w' B few' many' t cnt' ∧ Keep (Sc w B L) w w'
theorem nm_inj : ∀ i : Fin 13, ∀ j : Fin 13, (nm i).data.toList = (nm j).data.toList → i = j := by decide +kernel
theorem kn_ne {p q : Nat} (hp : p ≤ 12) (hq : q ≤ 12) (h : p ≠ q) : kn p ≠ kn q := by
  intro e
  unfold kn at e
  injection e with e
  have := nm_inj ⟨p, by omega⟩ ⟨q, by omega⟩ e
  simp at this
  exact h this
theorem kn_key (p : Nat) : WideAt.IsKeyLit (kn p) := trivial
theorem Mp.put {D : DataW Unit} {cnt : Nat → Nat} (h : Mp D cnt) {p v : Nat} (hp : p ≤ 12) (hv : 0 < v) : Mp (D.put (kn p) (.lit (.int .i64 v))) (upd cnt p v) := by
  refine ⟨h.1.put _ _, fun q hq => ?_⟩
  by_cases e : q = p
  · subst e
    rw [Maps.has_put_same h.1 (kn_key q), Maps.atKey_put_same h.1 (kn_key q), upd_same]
    simp [hv]
  · rw [Maps.has_put_other (kn_ne hq hp e), Maps.atKey_put_other (kn_ne hq hp e), upd_other _ _ e]
    exact h.2 q hq
theorem Mp.del {D : DataW Unit} {cnt : Nat → Nat} (h : Mp D cnt) {p : Nat} (hp : p ≤ 12) : Mp (D.del (kn p)) (upd cnt p 0) := by
  refine ⟨h.1.del _, fun q hq => ?_⟩
  by_cases e : q = p
  · subst e
    rw [Maps.has_del_same, Maps.atKey_del_same, upd_same]
    simp
  · rw [Maps.has_del_other (kn_ne hq hp e), Maps.atKey_del_other (kn_ne hq hp e), upd_other _ _ e]
    exact h.2 q hq
theorem val3 (v : Nat) (hv : v ≤ 100000) : plainElem (H := Unit) Yba.prog 3 (.int .i64 v) = some (.lit (.int .i64 v), []) := plainElem_int Yba.underlying3 (by
  simp [Lit.wf, IntKind.min, IntKind.max, IntKind.signed, IntKind.bits]
  omega)
end Go.Proofs.Ybulkcnwo
