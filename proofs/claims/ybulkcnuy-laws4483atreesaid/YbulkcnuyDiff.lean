import Derived.Test.YbulkcnuyWideA
namespace Go.Proofs.Ybulkcnuy
open Go.RowKit

/-- How a difference comes out: its terms (the number, whether it is defined, whether it is subtracted) one after the other. -/
def dOut : List (Int × Bool × Bool) → Int → Int
  | [], v => sgn v
  | (n, df, m) :: ts, v => if df = true then dOut ts (v + sg m n) else 8

/-- Place k of the terms at block tb reads, in the cut at block cb, as (n, df, m). -/
def TermAt (w : World) (tb cb cl k : Nat) (t : Int × Bool × Bool) : Prop :=
  ∃ h vb vl vc ci : Nat, h < cl ∧ ci < vl ∧ -9223372036854775808 ≤ t.1 ∧ t.1 ≤ 9223372036854775807 ∧
    w.cell? ⟨tb, k * 3, none⟩ = some (.int .i64 h) ∧ w.cell? ⟨tb, k * 3 + 1, none⟩ = some (.slice (some ⟨vb, 0, none⟩) vl vc) ∧ w.cell? ⟨tb, k * 3 + 2, none⟩ = some (.bool t.2.2) ∧
    w.cell? ⟨cb, h, none⟩ = some (.int .i32 ci) ∧ w.cell? ⟨vb, ci * 2, none⟩ = some (.int .i64 t.1) ∧ w.cell? ⟨vb, ci * 2 + 1, none⟩ = some (.bool t.2.1) ∧
    tb < w.heap.size ∧ cb < w.heap.size ∧ vb < w.heap.size

set_option maxHeartbeats 400000 in
theorem dout_any (ts : List (Int × Bool × Bool)) (hi lo : Int) (db tb tc cb cl cc : Nat) (w : World)
    (h1 : 0 ≤ lo) (h2 : lo < 18446744073709551616) (h3 : -1 ≤ hi) (h4 : hi ≤ 0) (hts : ts.length ≤ 1000)
    (hdb : db < w.heap.size)
    (d0 : w.cell? ⟨db, 0, none⟩ = some (.int .i64 hi)) (d1 : w.cell? ⟨db, 1, none⟩ = some (.int .u64 lo))
    (d2 : w.cell? ⟨db, 2, none⟩ = some (.slice (some ⟨tb, 0, none⟩) ts.length tc))
    (hT : ∀ k (h : k < ts.length), TermAt w tb cb cl k ts[k]) :
    Calls Yba.prog 11 #[.pointer (some ⟨db, 0, none⟩), .slice (some ⟨cb, 0, none⟩) cl cc] w fun e w' =>
      e = .returned (.int .u8 (dOut ts (hi * 18446744073709551616 + lo))) ∧ Below w.heap.size w w' := by
  go_enter Yba.func11, Yba.ntmps11
  go_wp2_with fail
  go_loopw [18] (fun i wr => ∃ k : Nat, ∃ hk lk : Int, k ≤ ts.length ∧ i = .int .i64 k ∧ 0 ≤ lk ∧ lk < 18446744073709551616 ∧ -(k : Int) - 1 ≤ hk ∧ hk ≤ k ∧
      Hid (dOut (ts.drop k) (hk * 18446744073709551616 + lk) = dOut ts (hi * 18446744073709551616 + lo)) ∧ w.heap.size < wr.heap.size ∧
      wr.cell? ⟨w.heap.size, 0, none⟩ = some (.int .i64 hk) ∧ wr.cell? ⟨w.heap.size, 1, none⟩ = some (.int .u64 lk) ∧
      wr.frozen? ⟨w.heap.size, 0, none⟩ = false ∧ wr.frozen? ⟨w.heap.size, 1, none⟩ = false ∧ Below w.heap.size w wr)
    (fun i _ => ts.length - (intOf i).toNat)
  case atStart => exact ⟨0, hi, lo, Nat.zero_le _, rfl, h1, h2, by omega, by omega, rfl, by simp, by simp, by simp, by simp, by simp, (Below.refl _ _).alloc (Nat.le_refl _) _⟩
  case round =>
    obtain ⟨k, hk, lk, hkl, rfl, l0, l1, g0, g1, HD, hsz, c0, c1, f0, f1, hb⟩ := hrel
    by_cases hlt : k < ts.length
    · have hst : dOut (ts.drop k) (hk * 18446744073709551616 + lk) = if ts[k].2.1 = true then dOut (ts.drop (k + 1)) (hk * 18446744073709551616 + lk + sg ts[k].2.2 ts[k].1) else 8 := by
        rw [List.drop_eq_getElem_cons hlt]; rfl
      rw [HD.out] at hst
      obtain ⟨h, vb, vl, vc, ci, t1, t2, t3, t4, q0, q1, q2, q3, q4, q5, b1, b2, b3⟩ := hT k hlt
      generalize ts[k] = t at hst t3 t4 q0 q1 q2 q3 q4 q5
      obtain ⟨n, df, m⟩ := t
      simp only at hst t3 t4 q0 q1 q2 q3 q4 q5
      have p0 := (hb.cell (p := ⟨tb, k * 3, none⟩) b1).trans q0
      have p1 := (hb.cell (p := ⟨tb, k * 3 + 1, none⟩) b1).trans q1
      have p2 := (hb.cell (p := ⟨tb, k * 3 + 2, none⟩) b1).trans q2
      have p3 := (hb.cell (p := ⟨cb, h, none⟩) b2).trans q3
      have p4 := (hb.cell (p := ⟨vb, ci * 2, none⟩) b3).trans q4
      have p5 := (hb.cell (p := ⟨vb, ci * 2 + 1, none⟩) b3).trans q5
      have HS : Hid (dOut ts (hi * 18446744073709551616 + lo) = if df = true then dOut (ts.drop (k + 1)) (hk * 18446744073709551616 + lk + sg m n) else 8) := hst
      clear q0 q1 q2 q3 q4 q5 d0 d1 d2 hT hst HD
      have hsz1 : vb < wr.heap.size := by have := hb.size; omega
      have hsz2 : cb < wr.heap.size := by have := hb.size; omega
      have hsz3 : tb < wr.heap.size := by have := hb.size; omega
      cases df
      · go_wp2_with fail
        go_region
        go_wp2_with fail
        go_ret
        refine ⟨?_, ?_⟩
        · rw [HS.out]; rfl
        · exact ((hb.alloc (by omega) _).alloc (by simp; omega) _).drew
      · go_wp2_with fail
        go_region
        have hv := add_val m hk lk n l0 l1 (by omega) (by omega) t3 t4
        have hr := addLo_rng m lk n
        have HV : Hid (dOut (ts.drop (k + 1)) (addHi m hk lk n * 18446744073709551616 + addLo m lk n) = dOut ts (hi * 18446744073709551616 + lo)) := by
          rw [hv, HS.out]; rfl
        have hlo : -((k + 1 : Nat) : Int) - 1 ≤ addHi m hk lk n := by cases m <;> simp only [sg] at hv <;> omega
        have hhi : addHi m hk lk n ≤ ((k + 1 : Nat) : Int) := by cases m <;> simp only [sg] at hv <;> omega
        clear hv HS
        go_wp2_with (go_at_call 15; refine (wadd_any m hk lk n l0 _).mono ?_; rintro e w' ⟨rfl, hb'⟩; have hw : Below wr.heap.size wr w' := (((Below.refl _ _).alloc (Nat.le_refl _) _).alloc (by simp) _).drew.trans (hb'.mono (by simp; omega)); have c0' := (hw.cell (p := ⟨w.heap.size, 0, none⟩) hsz).trans c0; have c1' := (hw.cell (p := ⟨w.heap.size, 1, none⟩) hsz).trans c1; have f0' := (hw.frozen (p := ⟨w.heap.size, 0, none⟩) hsz).trans f0; have f1' := (hw.frozen (p := ⟨w.heap.size, 1, none⟩) hsz).trans f1; clear hb')
        go_roundw
        case rel => exact ⟨k + 1, _, _, by omega, by go_num, hr.1, hr.2, hlo, hhi, HV, by simp [World.setCell]; have := hw.size; omega, by simp [go_sem, c0'], by simp [go_sem, c1'], by simp [f0'], by simp [f1'], ((hb.trans (hw.mono (by omega))).setCell (by simp) _).setCell (by simp) _⟩
        case measure => simp [intOf]; omega
    · have hke : k = ts.length := by omega
      have HE : Hid (sgn (hk * 18446744073709551616 + lk) = dOut ts (hi * 18446744073709551616 + lo)) := by
        have := HD.out; rw [List.drop_of_length_le (by omega)] at this; exact this
      go_wp2_with (go_at_call 16; refine (wout_any _ _ _).mono ?_; rintro e w' ⟨rfl, hb'⟩)
      go_ret
      refine ⟨?_, ?_⟩
      · rw [← HE.out, ← wsgn_val hk lk l0 l1]; rfl
      · exact hb.trans (hb'.mono (by omega))

/-- The difference at block db reads as the constant v and the terms ts, in the cut at block cb (of cl counts). -/
def DiffAt (w : World) (db cb cl : Nat) (ts : List (Int × Bool × Bool)) (v : Int) : Prop :=
  ∃ hi lo : Int, ∃ tb tc : Nat, v = hi * 18446744073709551616 + lo ∧ 0 ≤ lo ∧ lo < 18446744073709551616 ∧ -1 ≤ hi ∧ hi ≤ 0 ∧ ts.length ≤ 1000 ∧ db < w.heap.size ∧
    w.cell? ⟨db, 0, none⟩ = some (.int .i64 hi) ∧ w.cell? ⟨db, 1, none⟩ = some (.int .u64 lo) ∧ w.cell? ⟨db, 2, none⟩ = some (.slice (some ⟨tb, 0, none⟩) ts.length tc) ∧
    ∀ k (h : k < ts.length), TermAt w tb cb cl k ts[k]
theorem TermAt.later {w w' : World} {tb cb cl k : Nat} {t : Int × Bool × Bool} (h : TermAt w tb cb cl k t) (hb : Below w.heap.size w w') : TermAt w' tb cb cl k t := by
  obtain ⟨h, vb, vl, vc, ci, t1, t2, t3, t4, q0, q1, q2, q3, q4, q5, b1, b2, b3⟩ := h
  have hs := hb.size
  exact ⟨h, vb, vl, vc, ci, t1, t2, t3, t4, (hb.cell (by exact b1)).trans q0, (hb.cell (by exact b1)).trans q1, (hb.cell (by exact b1)).trans q2, (hb.cell (by exact b2)).trans q3, (hb.cell (by exact b3)).trans q4, (hb.cell (by exact b3)).trans q5, by omega, by omega, by omega⟩
theorem DiffAt.later {w w' : World} {db cb cl : Nat} {ts : List (Int × Bool × Bool)} {v : Int} (h : DiffAt w db cb cl ts v) (hb : Below w.heap.size w w') : DiffAt w' db cb cl ts v := by
  obtain ⟨hi, lo, tb, tc, rfl, h1, h2, h3, h4, hts, hdb, d0, d1, d2, hT⟩ := h
  have hs := hb.size
  exact ⟨hi, lo, tb, tc, rfl, h1, h2, h3, h4, hts, by omega, (hb.cell (by exact hdb)).trans d0, (hb.cell (by exact hdb)).trans d1, (hb.cell (by exact hdb)).trans d2, fun k hk => (hT k hk).later hb⟩
theorem dout_at {w : World} {db cb cl : Nat} {ts : List (Int × Bool × Bool)} {v : Int} (h : DiffAt w db cb cl ts v) (cc : Nat) :
    Calls Yba.prog 11 #[.pointer (some ⟨db, 0, none⟩), .slice (some ⟨cb, 0, none⟩) cl cc] w fun e w' => e = .returned (.int .u8 (dOut ts v)) ∧ Below w.heap.size w w' := by
  obtain ⟨hi, lo, tb, tc, rfl, h1, h2, h3, h4, hts, hdb, d0, d1, d2, hT⟩ := h
  exact dout_any ts hi lo db tb tc cb cl cc w h1 h2 h3 h4 hts hdb d0 d1 d2 hT
end Go.Proofs.Ybulkcnuy
