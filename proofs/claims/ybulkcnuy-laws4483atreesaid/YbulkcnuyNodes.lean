import Derived.Test.YbulkcnuyGood
namespace Go.Proofs.Ybulkcnuy
open Go.RowKit

/-- Block b of w is the row cs of cells of type t. -/
def Blk (w : World) (b : Nat) (t : TypeId) (cs : Array Value) : Prop := w.heap[b]? = some (.cells cs t (0, 0))
section
variable {w w' : World} {b : Nat} {t : TypeId} {cs : Array Value}
theorem Blk.lt (h : Blk w b t cs) : b < w.heap.size := (Array.getElem?_eq_some_iff.1 h).1
theorem Blk.cell (h : Blk w b t cs) (o : Nat) : w.cell? ⟨b, o, none⟩ = cs[o]? := by
  have h' : w.heap[b]? = some (.cells cs t (0, 0)) := h
  simp [World.cell?, h']
theorem Blk.frozen (h : Blk w b t cs) (o : Nat) : w.frozen? ⟨b, o, none⟩ = false := by
  have h' : w.heap[b]? = some (.cells cs t (0, 0)) := h
  simp [World.frozen?, h']
theorem Blk.not_items (h : Blk w b t cs) (ht : t ≠ 38) : ¬ Items w b := by
  rintro ⟨cur, mk, hc⟩
  have h' : w.heap[b]? = some (.cells cs t (0, 0)) := h
  rw [h'] at hc
  simp only [Option.some.injEq, Obj.cells.injEq] at hc
  exact ht hc.2.1
theorem Blk.kept (h : Blk w b t cs) (hk : Kept w w') (ht : t ≠ 38) : Blk w' b t cs := (hk.2 b h.lt (h.not_items ht)).trans h
theorem Blk.below (h : Blk w b t cs) (hb : Below w.heap.size w w') : Blk w' b t cs := (hb.block b h.lt).trans h
theorem Blk.new (w : World) (t : TypeId) (cs : Array Value) : Blk (w.alloc (.cells cs t)) w.heap.size t cs := by
  show (w.heap.push _)[w.heap.size]? = _
  simp
end

/-- The cut: three counts, each from 0 to 3. -/
def Cut (w : World) (cb : Nat) (c : Nat → Nat) : Prop := Blk w cb 21 #[.int .i32 (c 0), .int .i32 (c 1), .int .i32 (c 2)] ∧ c 0 < 4 ∧ c 1 < 4 ∧ c 2 < 4
theorem Cut.cell {w : World} {cb : Nat} {c : Nat → Nat} (h : Cut w cb c) {i : Nat} (hi : i < 3) : w.cell? ⟨cb, i, none⟩ = some (.int .i32 (c i)) := by
  rw [h.1.cell i]
  match i, hi with
  | 0, _ => rfl
  | 1, _ => rfl
  | 2, _ => rfl
theorem Cut.lt {w : World} {cb : Nat} {c : Nat → Nat} (h : Cut w cb c) {i : Nat} (hi : i < 3) : c i < 4 := by
  obtain ⟨_, h0, h1, h2⟩ := h
  match i, hi with
  | 0, _ => exact h0
  | 1, _ => exact h1
  | 2, _ => exact h2
theorem Cut.kept {w w' : World} {cb : Nat} {c : Nat → Nat} (h : Cut w cb c) (hk : Kept w w') : Cut w' cb c := ⟨h.1.kept hk (by decide), h.2⟩

set_option maxHeartbeats 400000 in
theorem good_atom {w : World} {cb fb hb h : Nat} {c : Nat → Nat} {B : Nat → Bool} (hc : Cut w cb c) (hh : h < 3)
    (hf : Blk w fb 36 #[.int .i64 0, .int .i64 h, .slice (some ⟨hb, 0, none⟩) 4 4, .slice none 0 0, .pointer none, .int .u8 0])
    (hl : Blk w hb 4 #[.bool (B 0), .bool (B 1), .bool (B 2), .bool (B 3)]) : Good cb w fb (B (c h)) := by
  intro w' hk
  have hci := (hc.kept hk).cell hh
  have hcl := hc.lt hh
  generalize c h = ci at hci hcl
  have hlc : w'.cell? ⟨hb, ci, none⟩ = some (.bool (B ci)) := by
    rw [(hl.kept hk (by decide)).cell]
    match ci, hcl with
    | 0, _ => rfl
    | 1, _ => rfl
    | 2, _ => rfl
    | 3, _ => rfl
  have f0 : w'.cell? ⟨fb, 0, none⟩ = some (.int .i64 0) := (hf.kept hk (by decide)).cell 0
  have f1 : w'.cell? ⟨fb, 1, none⟩ = some (.int .i64 h) := (hf.kept hk (by decide)).cell 1
  have f2 : w'.cell? ⟨fb, 2, none⟩ = some (.slice (some ⟨hb, 0, none⟩) 4 4) := (hf.kept hk (by decide)).cell 2
  have l1 := (hf.kept hk (by decide)).lt
  have l2 := (hl.kept hk (by decide)).lt
  have l3 := (hc.kept hk).1.lt
  clear hf hl hc
  go_enter Yba.func9, Yba.ntmps9
  go_wp2_with fail
  go_region
  go_wp2_with fail
  go_ret
  exact ⟨rfl, ((Below.refl _ _).alloc (Nat.le_refl _) _).drew⟩

set_option maxHeartbeats 400000 in
theorem good_not {w : World} {cb fb ab ac p : Nat} {b : Bool}
    (hf : Blk w fb 36 #[.int .i64 1, .int .i64 0, .slice none 0 0, .slice (some ⟨ab, 0, none⟩) 1 ac, .pointer none, .int .u8 0])
    (hl : Blk w ab 30 #[.pointer (some ⟨p, 0, none⟩)]) (hg : Good cb w p b) : Good cb w fb (!b) := by
  intro w' hk
  have f0 : w'.cell? ⟨fb, 0, none⟩ = some (.int .i64 1) := (hf.kept hk (by decide)).cell 0
  have f3 : w'.cell? ⟨fb, 3, none⟩ = some (.slice (some ⟨ab, 0, none⟩) 1 ac) := (hf.kept hk (by decide)).cell 3
  have a0 : w'.cell? ⟨ab, 0, none⟩ = some (.pointer (some ⟨p, 0, none⟩)) := (hl.kept hk (by decide)).cell 0
  have l1 := (hf.kept hk (by decide)).lt
  have l2 := (hl.kept hk (by decide)).lt
  have HG := hide hg
  have hI : Below w'.heap.size w' (w'.alloc (.cells #[.slice (some ⟨cb, 0, none⟩) 3 3] 24)).drew := ((Below.refl _ _).alloc (Nat.le_refl _) _).drew
  clear hf hl hg
  go_enter Yba.func9, Yba.ntmps9
  go_wp2_with fail
  go_region_held3 (fun w1 => w1.cell? ⟨fb, 3, none⟩ = some (.slice (some ⟨ab, 0, none⟩) 1 ac) ∧ w1.cell? ⟨ab, 0, none⟩ = some (.pointer (some ⟨p, 0, none⟩)) ∧ w1.cell? ⟨w'.heap.size, 0, none⟩ = some (.slice (some ⟨cb, 0, none⟩) 3 3))
    (first | simp [go_sem, l1, l2, f3, a0] | exact ⟨k1, k2, k3⟩)
    (first | (go_at_call 9; refine (HG.out _ (hk.trans (Kept.of_below hI))).mono ?_; rintro e w1 ⟨rfl, h1⟩; have k1 := (h1.cell (p := ⟨fb, 3, none⟩) (by simp; omega)).trans (show _ = some (Value.slice (some ⟨ab, 0, none⟩) 1 ac) by simp [go_sem, l1, f3]); have k2 := (h1.cell (p := ⟨ab, 0, none⟩) (by simp; omega)).trans (show _ = some (Value.pointer (some ⟨p, 0, none⟩)) by simp [go_sem, l2, a0]); have k3 := (h1.cell (p := ⟨w'.heap.size, 0, none⟩) (by simp)).trans (show _ = some (Value.slice (some ⟨cb, 0, none⟩) 3 3) by simp [go_sem]); have h2 := hI.trans (h1.mono (by simp))))
  go_wp2_with fail
  go_ret
  exact ⟨rfl, h2⟩
set_option maxHeartbeats 400000 in
theorem cont_13 (its : List (Nat × Bool)) (ab ac cb bx : Nat) (w0 w : World) (hk0 : Kept w0 w) (hn : its.length ≤ 1000) (hab : ab < w.heap.size) (hbx : bx < w.heap.size)
    (hc : ∀ j (h : j < its.length), w.cell? ⟨ab, j, none⟩ = some (.pointer (some ⟨its[j].1, 0, none⟩)))
    (hb : w.cell? ⟨bx, 0, none⟩ = some (.slice (some ⟨cb, 0, none⟩) 3 3))
    (hg : ∀ j (h : j < its.length), Good cb w0 its[j].1 its[j].2) :
    Calls Yba.prog 12 #[.slice (some ⟨ab, 0, none⟩) its.length ac, clo 13 bx] w fun e w' =>
      e = .returned (.bool (its.any (fun x => !x.2))) ∧ Below w.heap.size w w' := by
  have HX := hide (idx_13 its ab ac cb bx w0 w hk0 hn hab hbx hc hb hg)
  clear hc hb hg
  go_enter Yba.func12, Yba.ntmps12
  go_wp2_with (go_at_call 17; refine HX.out.mono ?_; rintro e w1 ⟨r, rfl, hr, h1⟩; have HR := hide hr; clear hr)
  go_ret
  exact ⟨by rw [← HR.out]; rfl, h1⟩
set_option maxHeartbeats 400000 in
theorem cont_14 (its : List (Nat × Bool)) (ab ac cb bx : Nat) (w0 w : World) (hk0 : Kept w0 w) (hn : its.length ≤ 1000) (hab : ab < w.heap.size) (hbx : bx < w.heap.size)
    (hc : ∀ j (h : j < its.length), w.cell? ⟨ab, j, none⟩ = some (.pointer (some ⟨its[j].1, 0, none⟩)))
    (hb : w.cell? ⟨bx, 0, none⟩ = some (.slice (some ⟨cb, 0, none⟩) 3 3))
    (hg : ∀ j (h : j < its.length), Good cb w0 its[j].1 its[j].2) :
    Calls Yba.prog 12 #[.slice (some ⟨ab, 0, none⟩) its.length ac, clo 14 bx] w fun e w' =>
      e = .returned (.bool (its.any (fun x => x.2))) ∧ Below w.heap.size w w' := by
  have HX := hide (idx_14 its ab ac cb bx w0 w hk0 hn hab hbx hc hb hg)
  clear hc hb hg
  go_enter Yba.func12, Yba.ntmps12
  go_wp2_with (go_at_call 17; refine HX.out.mono ?_; rintro e w1 ⟨r, rfl, hr, h1⟩; have HR := hide hr; clear hr)
  go_ret
  exact ⟨by rw [← HR.out]; rfl, h1⟩
theorem not_any_not (its : List (Nat × Bool)) : (!its.any (fun x => !x.2)) = its.all (fun x => x.2) := by
  induction its with
  | nil => rfl
  | cons a l ih => simp only [List.any_cons, List.all_cons, Bool.not_or, Bool.not_not, ih]
set_option maxHeartbeats 400000 in
theorem good_and {w : World} {cb fb ab ac : Nat} {its : List (Nat × Bool)} {A : Array Value} (hn : its.length ≤ 1000)
    (hf : Blk w fb 36 #[.int .i64 2, .int .i64 0, .slice none 0 0, .slice (some ⟨ab, 0, none⟩) its.length ac, .pointer none, .int .u8 0])
    (hl : Blk w ab 30 A) (hA : ∀ j (h : j < its.length), A[j]? = some (.pointer (some ⟨its[j].1, 0, none⟩)))
    (hg : ∀ j (h : j < its.length), Good cb w its[j].1 its[j].2) : Good cb w fb (its.all (fun x => x.2)) := by
  intro w' hk
  have f0 : w'.cell? ⟨fb, 0, none⟩ = some (.int .i64 2) := (hf.kept hk (by decide)).cell 0
  have f3 : w'.cell? ⟨fb, 3, none⟩ = some (.slice (some ⟨ab, 0, none⟩) its.length ac) := (hf.kept hk (by decide)).cell 3
  have l1 := (hf.kept hk (by decide)).lt
  have hI : Below w'.heap.size w' (w'.alloc (.cells #[.slice (some ⟨cb, 0, none⟩) 3 3] 24)) := ((Below.refl _ _).alloc (Nat.le_refl _) _)
  have hl' := ((hl.kept hk (by decide)).below hI)
  have HX := hide (cont_13 its ab ac cb w'.heap.size w _ (hk.trans (Kept.of_below hI)) hn hl'.lt (by simp) (fun j h => (hl'.cell j).trans (hA j h)) (by simp [go_sem]) hg)
  clear hf hl hg hl' hA
  go_enter Yba.func9, Yba.ntmps9
  go_wp2_with (go_at_call 12; refine HX.out.mono ?_; rintro e w1 ⟨rfl, h1⟩)
  go_ret
  exact ⟨by rw [← not_any_not]; rfl, hI.trans (h1.mono (by simp))⟩
set_option maxHeartbeats 400000 in
theorem good_or {w : World} {cb fb ab ac : Nat} {its : List (Nat × Bool)} {A : Array Value} (hn : its.length ≤ 1000)
    (hf : Blk w fb 36 #[.int .i64 3, .int .i64 0, .slice none 0 0, .slice (some ⟨ab, 0, none⟩) its.length ac, .pointer none, .int .u8 0])
    (hl : Blk w ab 30 A) (hA : ∀ j (h : j < its.length), A[j]? = some (.pointer (some ⟨its[j].1, 0, none⟩)))
    (hg : ∀ j (h : j < its.length), Good cb w its[j].1 its[j].2) : Good cb w fb (its.any (fun x => x.2)) := by
  intro w' hk
  have f0 : w'.cell? ⟨fb, 0, none⟩ = some (.int .i64 3) := (hf.kept hk (by decide)).cell 0
  have f3 : w'.cell? ⟨fb, 3, none⟩ = some (.slice (some ⟨ab, 0, none⟩) its.length ac) := (hf.kept hk (by decide)).cell 3
  have l1 := (hf.kept hk (by decide)).lt
  have hI : Below w'.heap.size w' (w'.alloc (.cells #[.slice (some ⟨cb, 0, none⟩) 3 3] 24)) := ((Below.refl _ _).alloc (Nat.le_refl _) _)
  have hl' := ((hl.kept hk (by decide)).below hI)
  have HX := hide (cont_14 its ab ac cb w'.heap.size w _ (hk.trans (Kept.of_below hI)) hn hl'.lt (by simp) (fun j h => (hl'.cell j).trans (hA j h)) (by simp [go_sem]) hg)
  clear hf hl hg hl' hA
  go_enter Yba.func9, Yba.ntmps9
  go_wp2_with (go_at_call 12; refine HX.out.mono ?_; rintro e w1 ⟨rfl, h1⟩)
  go_ret
  exact ⟨rfl, hI.trans (h1.mono (by simp))⟩

/-- The term at place k, all its blocks no stack items. -/
def TermK (w : World) (tb k : Nat) (c : Nat → Nat) (t : Int × Bool × Bool) : Prop :=
  ∃ h vb : Nat, ∃ V T : Array Value, h < 3 ∧ -9223372036854775808 ≤ t.1 ∧ t.1 ≤ 9223372036854775807 ∧ Blk w tb 42 T ∧ Blk w vb 51 V ∧
    T[k * 3]? = some (.int .i64 h) ∧ T[k * 3 + 1]? = some (.slice (some ⟨vb, 0, none⟩) 4 4) ∧ T[k * 3 + 2]? = some (.bool t.2.2) ∧
    V[c h * 2]? = some (.int .i64 t.1) ∧ V[c h * 2 + 1]? = some (.bool t.2.1)
theorem TermK.at {w w' : World} {tb cb k : Nat} {c : Nat → Nat} {t : Int × Bool × Bool} (h : TermK w tb k c t) (hc : Cut w cb c) (hk : Kept w w') : TermAt w' tb cb 3 k t := by
  obtain ⟨h, vb, V, T, h1, h2, h3, bT, bV, t0, t1, t2, v0, v1⟩ := h
  have bT' := bT.kept hk (by decide)
  have bV' := bV.kept hk (by decide)
  have hc' := hc.kept hk
  exact ⟨h, vb, 4, 4, c h, h1, hc.lt h1, h2, h3, (bT'.cell _).trans t0, (bT'.cell _).trans t1, (bT'.cell _).trans t2, hc'.cell h1, (bV'.cell _).trans v0, (bV'.cell _).trans v1, bT'.lt, hc'.1.lt, bV'.lt⟩
theorem good_cmp {w : World} {cb fb db tb : Nat} {c : Nat → Nat} {ts : List (Int × Bool × Bool)} {n mask : Int} (hc : Cut w cb c) (hts : ts.length ≤ 1000)
    (l0 : -9223372036854775808 ≤ n) (l1 : n ≤ 9223372036854775807)
    (hf : Blk w fb 36 #[.int .i64 4, .int .i64 0, .slice none 0 0, .slice none 0 0, .pointer (some ⟨db, 0, none⟩), .int .u8 mask])
    (hd : Blk w db 49 #[.int .i64 (n / 9223372036854775808), .int .u64 (IntKind.u64.wrap n), .slice (some ⟨tb, 0, none⟩) ts.length ts.length])
    (hT : ∀ k (h : k < ts.length), TermK w tb k c ts[k]) : Good cb w fb (meets (dOut ts n) mask) := by
  intro w' hk
  have hf' := hf.kept hk (by decide)
  have hd' := hd.kept hk (by decide)
  have hr := wrapu_nn n
  have hv : n = (n / 9223372036854775808) * 18446744073709551616 + IntKind.u64.wrap n := by rw [IntKind.wrap_u64]; omega
  exact eval_cmp ts n mask fb db cb 3 3 w' hf'.lt (hf'.cell 0) (hf'.cell 4) (hf'.cell 5)
    ⟨n / 9223372036854775808, IntKind.u64.wrap n, tb, ts.length, hv, hr.1, hr.2, by omega, by omega, hts, hd'.lt, hd'.cell 0, hd'.cell 1, hd'.cell 2, fun k h => (hT k h).at hc hk⟩
end Go.Proofs.Ybulkcnuy
