import Derived.Test.YbulkcnuyCmp
namespace Go.Proofs.Ybulkcnuy
open Go.RowKit

/-- Block k holds stack items (cells of type 38). -/
def Items (w : World) (k : Nat) : Prop := ∃ cur mk, w.heap[k]? = some (.cells cur 38 mk)
/-- From w to w' every block that holds no stack items has stayed as it was. -/
def Kept (w w' : World) : Prop := w.heap.size ≤ w'.heap.size ∧ ∀ k, k < w.heap.size → ¬ Items w k → w'.heap[k]? = w.heap[k]?
theorem Kept.refl (w : World) : Kept w w := ⟨Nat.le_refl _, fun _ _ _ => rfl⟩
theorem Kept.trans {a b c : World} (h : Kept a b) (g : Kept b c) : Kept a c :=
  ⟨Nat.le_trans h.1 g.1, fun k hk hn => by
    have e := h.2 k hk hn
    have hn' : ¬ Items b k := by rintro ⟨cur, mk, hc⟩; exact hn ⟨cur, mk, by rw [← e]; exact hc⟩
    rw [g.2 k (Nat.lt_of_lt_of_le hk h.1) hn', e]⟩
theorem Kept.of_below {w w' : World} (h : Below w.heap.size w w') : Kept w w' := ⟨h.size, fun k hk _ => h.block k hk⟩
theorem Kept.of_grown {w w' : World} {row : Option Nat} (h : w.grownBy w' row) (hr : ∀ k, row = some k → Items w k) : Kept w w' :=
  ⟨h.size, fun k hk hn => h.block k hk (fun e => hn (hr k e.symm))⟩
theorem Kept.cell {w w' : World} (h : Kept w w') {p : Addr} (hp : p.block < w.heap.size) (hn : ¬ Items w p.block) : w'.cell? p = w.cell? p := World.cell?_of_block (h.2 p.block hp hn)

/-- The formula at block p comes to b in the cut at block cb: in whatever world has kept it. -/
def Good (cb : Nat) (w : World) (p : Nat) (b : Bool) : Prop :=
  ∀ w', Kept w w' → Calls Yba.prog 9 #[.pointer (some ⟨p, 0, none⟩), .slice (some ⟨cb, 0, none⟩) 3 3] w' fun e w'' => e = .returned (.bool b) ∧ Below w'.heap.size w' w''
theorem Good.later {cb : Nat} {w w' : World} {p : Nat} {b : Bool} (h : Good cb w p b) (hk : Kept w w') : Good cb w' p b := fun w'' hk' => h w'' (hk.trans hk')

/-- The closure g over the cut's box at bx. -/
abbrev clo (g bx : Nat) : Value := .func (.func g) #[] #[.pointer (some ⟨bx, 0, none⟩)]

theorem hide {p : Prop} (h : p) : Hid p := h
theorem clo_13 (cb bx p : Nat) (b : Bool) (w w' : World) (hk : Kept w w') (hg : Good cb w p b) (hb : w'.cell? ⟨bx, 0, none⟩ = some (.slice (some ⟨cb, 0, none⟩) 3 3)) :
    Calls Yba.prog 13 #[.pointer (some ⟨p, 0, none⟩), .pointer (some ⟨bx, 0, none⟩)] w' fun e w'' => e = .returned (.bool (!b)) ∧ Below w'.heap.size w' w'' := by
  have HG : Hid (Good cb w p b) := hg
  clear hg
  go_enter Yba.func13, Yba.ntmps13
  go_wp2_with (go_at_call 9; refine (HG.out _ hk).mono ?_; rintro e w1 ⟨rfl, h1⟩)
  go_ret
  exact ⟨rfl, h1⟩
set_option maxHeartbeats 400000 in
theorem idx_13 (its : List (Nat × Bool)) (ab ac cb bx : Nat) (w0 w : World) (hk0 : Kept w0 w) (hn : its.length ≤ 1000) (hab : ab < w.heap.size) (hbx : bx < w.heap.size)
    (hc : ∀ j (h : j < its.length), w.cell? ⟨ab, j, none⟩ = some (.pointer (some ⟨its[j].1, 0, none⟩)))
    (hb : w.cell? ⟨bx, 0, none⟩ = some (.slice (some ⟨cb, 0, none⟩) 3 3))
    (hg : ∀ j (h : j < its.length), Good cb w0 its[j].1 its[j].2) :
    Calls Yba.prog 17 #[.slice (some ⟨ab, 0, none⟩) its.length ac, clo 13 bx] w fun e w' =>
      ∃ r : Int, e = .returned (.int .i64 r) ∧ decide (0 ≤ r) = its.any (fun x => !x.2) ∧ Below w.heap.size w w' := by
  have HG := hide hg
  clear hg
  go_enter Yba.func17, Yba.ntmps17
  go_wp2_with fail
  go_loopw [8] (fun i wr => ∃ k : Nat, k ≤ its.length ∧ i = .int .i64 k ∧ Hid ((its.take k).any (fun x => !x.2) = false) ∧ Below w.heap.size w wr) (fun i _ => its.length - (intOf i).toNat)
  case atStart => exact ⟨0, Nat.zero_le _, rfl, by simp [Hid], Below.refl _ _⟩
  case round =>
    obtain ⟨k, hk, rfl, HN, hbl⟩ := hrel
    by_cases hlt : k < its.length
    · have c1 := (hbl.cell (p := ⟨ab, k, none⟩) hab).trans (hc k hlt)
      have c2 := (hbl.cell (p := ⟨bx, 0, none⟩) hbx).trans hb
      have HG' := hide (HG.out k hlt)
      have htk : its.take (k + 1) = its.take k ++ [its[k]] := List.take_succ_eq_append_getElem hlt
      have hin : its[k] ∈ its := List.getElem_mem hlt
      generalize its[k] = it at c1 HG' htk hin
      obtain ⟨p, b⟩ := it
      have HT := hide htk
      have HI := hide hin
      clear htk hin hc HG
      simp only at c1
      cases b
      · go_wp2_with (go_at_call 13; refine (clo_13 cb bx p false _ _ (hk0.trans (Kept.of_below hbl)) HG'.out c2).mono ?_; rintro e w1 ⟨rfl, h1⟩)
        go_ret
        refine ⟨k, rfl, ?_, hbl.trans (h1.mono hbl.size)⟩
        have h0 : its.any (fun x => !x.2) = true := List.any_eq_true.2 ⟨_, HI.out, rfl⟩
        rw [h0]; simp
      · go_wp2_with (go_at_call 13; refine (clo_13 cb bx p true _ _ (hk0.trans (Kept.of_below hbl)) HG'.out c2).mono ?_; rintro e w1 ⟨rfl, h1⟩)
        go_roundw
        case rel => exact ⟨k + 1, by omega, by go_num, by show _ = false; rw [HT.out, List.any_append, HN.out]; rfl, hbl.trans (h1.mono hbl.size)⟩
        case measure => simp [intOf]; omega
    · have hke : k = its.length := by omega
      have HE : Hid (its.any (fun x => !x.2) = false) := by have := HN.out; rw [List.take_of_length_le (by omega)] at this; exact this
      go_wp2_with fail
      go_ret
      exact ⟨-1, rfl, by rw [HE.out]; rfl, hbl⟩
theorem clo_14 (cb bx p : Nat) (b : Bool) (w w' : World) (hk : Kept w w') (hg : Good cb w p b) (hb : w'.cell? ⟨bx, 0, none⟩ = some (.slice (some ⟨cb, 0, none⟩) 3 3)) :
    Calls Yba.prog 14 #[.pointer (some ⟨p, 0, none⟩), .pointer (some ⟨bx, 0, none⟩)] w' fun e w'' => e = .returned (.bool b) ∧ Below w'.heap.size w' w'' := by
  have HG : Hid (Good cb w p b) := hg
  clear hg
  go_enter Yba.func14, Yba.ntmps14
  go_wp2_with (go_at_call 9; refine (HG.out _ hk).mono ?_; rintro e w1 ⟨rfl, h1⟩)
  go_ret
  exact ⟨rfl, h1⟩
set_option maxHeartbeats 400000 in
theorem idx_14 (its : List (Nat × Bool)) (ab ac cb bx : Nat) (w0 w : World) (hk0 : Kept w0 w) (hn : its.length ≤ 1000) (hab : ab < w.heap.size) (hbx : bx < w.heap.size)
    (hc : ∀ j (h : j < its.length), w.cell? ⟨ab, j, none⟩ = some (.pointer (some ⟨its[j].1, 0, none⟩)))
    (hb : w.cell? ⟨bx, 0, none⟩ = some (.slice (some ⟨cb, 0, none⟩) 3 3))
    (hg : ∀ j (h : j < its.length), Good cb w0 its[j].1 its[j].2) :
    Calls Yba.prog 17 #[.slice (some ⟨ab, 0, none⟩) its.length ac, clo 14 bx] w fun e w' =>
      ∃ r : Int, e = .returned (.int .i64 r) ∧ decide (0 ≤ r) = its.any (fun x => x.2) ∧ Below w.heap.size w w' := by
  have HG := hide hg
  clear hg
  go_enter Yba.func17, Yba.ntmps17
  go_wp2_with fail
  go_loopw [8] (fun i wr => ∃ k : Nat, k ≤ its.length ∧ i = .int .i64 k ∧ Hid ((its.take k).any (fun x => x.2) = false) ∧ Below w.heap.size w wr) (fun i _ => its.length - (intOf i).toNat)
  case atStart => exact ⟨0, Nat.zero_le _, rfl, by simp [Hid], Below.refl _ _⟩
  case round =>
    obtain ⟨k, hk, rfl, HN, hbl⟩ := hrel
    by_cases hlt : k < its.length
    · have c1 := (hbl.cell (p := ⟨ab, k, none⟩) hab).trans (hc k hlt)
      have c2 := (hbl.cell (p := ⟨bx, 0, none⟩) hbx).trans hb
      have HG' := hide (HG.out k hlt)
      have htk : its.take (k + 1) = its.take k ++ [its[k]] := List.take_succ_eq_append_getElem hlt
      have hin : its[k] ∈ its := List.getElem_mem hlt
      generalize its[k] = it at c1 HG' htk hin
      obtain ⟨p, b⟩ := it
      have HT := hide htk
      have HI := hide hin
      clear htk hin hc HG
      simp only at c1
      cases b
      · go_wp2_with (go_at_call 14; refine (clo_14 cb bx p false _ _ (hk0.trans (Kept.of_below hbl)) HG'.out c2).mono ?_; rintro e w1 ⟨rfl, h1⟩)
        go_roundw
        case rel => exact ⟨k + 1, by omega, by go_num, by show _ = false; rw [HT.out, List.any_append, HN.out]; rfl, hbl.trans (h1.mono hbl.size)⟩
        case measure => simp [intOf]; omega
      · go_wp2_with (go_at_call 14; refine (clo_14 cb bx p true _ _ (hk0.trans (Kept.of_below hbl)) HG'.out c2).mono ?_; rintro e w1 ⟨rfl, h1⟩)
        go_ret
        refine ⟨k, rfl, ?_, hbl.trans (h1.mono hbl.size)⟩
        have h0 : its.any (fun x => x.2) = true := List.any_eq_true.2 ⟨_, HI.out, rfl⟩
        rw [h0]; simp
    · have hke : k = its.length := by omega
      have HE : Hid (its.any (fun x => x.2) = false) := by have := HN.out; rw [List.take_of_length_le (by omega)] at this; exact this
      go_wp2_with fail
      go_ret
      exact ⟨-1, rfl, by rw [HE.out]; rfl, hbl⟩
end Go.Proofs.Ybulkcnuy
