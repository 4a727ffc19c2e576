import Derived.Test.YbulkcnwoRun
import Derived.Lib.Bytealg
import Derived.Deep.Cut
import Derived.Laws.Externs
import Derived.Lib.Overlaps
namespace Go.Proofs.Ybulkcnwo
open Go.RowKit
theorem call31 (args : Array Value) (w : World) : (callFunc 31 args).run Yba.prog w = ((Extern.BytealgCompare.compare args).run Yba.prog w).andThen fun v w' => .ok (.value v) w' :=
  run_callFunc_extern Yba.func31 (by kernel_rfl) (by kernel_rfl) (by kernel_rfl) (by kernel_rfl) args w
theorem call31' (a b : ByteArray) (w : World) : (callFunc 31 #[.string a, .string b]).run Yba.prog w = .ok (.value (.int .i64 (Lib.compareBytes a.data.toList b.data.toList))) w := by
  rw [call31, Lib.run_compareString]; rfl
/-- The order of two names. -/
def cmpI (i j : Nat) : Int := if i < j then -1 else if i = j then 0 else 1
theorem cmp_tab : ∀ i : Fin 13, ∀ j : Fin 13, Lib.compareBytes (nm i).data.toList (nm j).data.toList = cmpI i j := by decide +kernel
theorem cmp_nm {i j : Nat} (hi : i ≤ 12) (hj : j ≤ 12) : Lib.compareBytes (nm i).data.toList (nm j).data.toList = cmpI i j := cmp_tab ⟨i, by omega⟩ ⟨j, by omega⟩
set_option maxHeartbeats 400000 in
theorem compare_any (w : World) (i j : Nat) (hi : i ≤ 12) (hj : j ≤ 12) : Calls Yba.prog 23 #[.string (nm i), .string (nm j)] w fun e w' => e = .returned (.int .i64 (cmpI i j)) ∧ w' = w := by
  have h31 := call31' (nm i) (nm j)
  rw [cmp_nm hi hj] at h31
  generalize nm i = a at *
  generalize nm j = b at *
  go_enter Yba.func23, Yba.ntmps23
  go_wp2_with (go_at_call 28; go_in)
  go_ret
  exact ⟨rfl, rfl⟩
set_option maxHeartbeats 400000 in
theorem cmp22_any (w : World) (i j : Nat) (c : Int) (hi : i ≤ 12) (hj : j ≤ 12) : Calls Yba.prog 22 #[.agg #[.string (nm i), .int .i64 c], .string (nm j)] w fun e w' => e = .returned (.int .i64 (cmpI i j)) ∧ Below w.heap.size w w' := by
  have H := hide fun w => compare_any w i j hi hj
  generalize nm i = a at *
  generalize nm j = b at *
  go_enter Yba.func22, Yba.ntmps22
  go_wp2_with (go_at_call 23; go_must (refine (H.out _).mono ?_); rintro _ w1 ⟨rfl, rfl⟩)
  go_ret
  exact ⟨rfl, (Below.refl _ _).alloc (Nat.le_refl _) _⟩
/-- The names and counts in a slice of n. -/
def FewC (w : World) (pa : Option Addr) (n : Nat) (fi : Nat → Nat) (fc : Nat → Int) : Prop :=
  ∀ k, k < n → ∃ g, pa = some ⟨g, 0, none⟩ ∧ g < w.heap.size ∧ fi k ≤ 12 ∧ w.cell? ⟨g, k * 2, none⟩ = some (.string (nm (fi k))) ∧ w.cell? ⟨g, k * 2 + 1, none⟩ = some (.int .i64 (fc k))
theorem FewC.later {w w' : World} {pa : Option Addr} {n : Nat} {fi : Nat → Nat} {fc : Nat → Int} (h : FewC w pa n fi fc) (hb : Below w.heap.size w w') : FewC w' pa n fi fc := fun k hk => by
  obtain ⟨g, h1, h2, h3, h4, h5⟩ := h k hk
  exact ⟨g, h1, Nat.lt_of_lt_of_le h2 hb.size, h3, (hb.cell (p := ⟨g, k * 2, none⟩) h2).trans h4, (hb.cell (p := ⟨g, k * 2 + 1, none⟩) h2).trans h5⟩
/-- Where p is, or would be; and whether it is there. -/
def Found (n : Nat) (fi : Nat → Nat) (p pos : Nat) (fd : Bool) : Prop := pos ≤ n ∧ (∀ k, k < pos → fi k < p) ∧ (∀ k, pos ≤ k → k < n → p ≤ fi k) ∧ (fd = true → pos < n ∧ fi pos = p) ∧ (fd = false → ∀ k, k < n → fi k ≠ p)
def FoundPost (w : World) (n : Nat) (fi : Nat → Nat) (p : Nat) (e : Ending) (w' : World) : Prop := ∃ (pos : Nat) (fd : Bool), e = .returned (.tuple #[.int .i64 pos, .bool fd]) ∧ Below w.heap.size w w' ∧ Found n fi p pos fd
set_option maxHeartbeats 400000 in
set_option maxRecDepth 10000 in
theorem bsearch_any (w : World) (pa : Option Addr) (n cap : Nat) (fi : Nat → Nat) (fc : Nat → Int) (p : Nat) (hp : p ≤ 12) (hn : n ≤ 100) (hF : FewC w pa n fi fc) (hup : ∀ a b, a < b → b < n → fi a < fi b) :
    Calls Yba.prog 21 #[.slice pa n cap, .string (nm p), .func (.func 22) #[] #[]] w (FoundPost w n fi p) := by
  have HF := hide hF
  have HU := hide hup
  clear hF hup
  go_enter Yba.func21, Yba.ntmps21
  go_wp2_with fail
  go_loopw [9, 10] (fun u v wr => ∃ i j : Nat, u = .int .i64 i ∧ v = .int .i64 j ∧ i ≤ j ∧ j ≤ n ∧ Hid (∀ k, k < i → fi k < p) ∧ Hid (∀ k, j ≤ k → k < n → p ≤ fi k) ∧ Below w.heap.size w wr) (fun u v _ => (intOf v).toNat - (intOf u).toNat)
  case atStart => exact ⟨0, n, rfl, rfl, Nat.zero_le _, Nat.le_refl _, fun k hk => by omega, fun k k1 k2 => by omega, Below.refl _ _⟩
  case round =>
    obtain ⟨i, j, rfl, rfl, hij, hjn, HLo, HHi, hb⟩ := hrel
    by_cases hlt : i < j
    · obtain ⟨h, hh⟩ : ∃ h, h = (i + j) / 2 := ⟨_, rfl⟩
      have g1 : ((i : Int) + j) / 2 = h := by omega
      have hi1 : i ≤ h := by omega
      have hj1 : h < j := by omega
      have hn1 : (h : Int) < n := by omega
      clear hh
      obtain ⟨g, rfl, hg, hk12, hk0, hk1⟩ := (HF.out.later hb) h (by omega)
      have HC := hide fun w => cmp22_any w (fi h) p (fc h) hk12 hp
      by_cases hc : fi h < p
      · have e0 : cmpI (fi h) p = -1 := by simp [cmpI, hc]
        rw [e0] at HC
        generalize hnm : nm (fi h) = a at *
        generalize hnm2 : nm p = b at *
        clear hnm hnm2
        go_wp2_with (go_at_call 22; go_must (refine (HC.out _).mono ?_); rintro _ w1 ⟨rfl, hb1⟩)
        go_roundw
        case rel =>
          refine ⟨h + 1, j, by go_num, rfl, by omega, hjn, fun k hk => ?_, HHi, hb.trans (hb1.mono hb.size)⟩
          by_cases e : k = h
          · subst e; exact hc
          · exact Nat.lt_trans (HU.out k h (by omega) (by omega)) hc
        case measure => simp [intOf]; omega
      · have e0 : (cmpI (fi h) p < 0) = False := by unfold cmpI; rw [if_neg hc]; split <;> simp
        generalize cmpI (fi h) p = cc at *
        generalize hnm : nm (fi h) = a at *
        generalize hnm2 : nm p = b at *
        clear hnm hnm2
        go_wp2_with (go_at_call 22; go_must (refine (HC.out _).mono ?_); rintro _ w1 ⟨rfl, hb1⟩)
        go_roundw
        case rel =>
          refine ⟨i, h, rfl, rfl, hi1, by omega, HLo, fun k k1 k2 => ?_, hb.trans (hb1.mono hb.size)⟩
          by_cases e : k = h
          · subst e; omega
          · have := HU.out h k (by omega) k2; omega
        case measure => simp [intOf]; omega
    · obtain rfl : i = j := by omega
      by_cases hin : i < n
      · obtain ⟨g, rfl, hg, hk12, hk0, hk1⟩ := (HF.out.later hb) i hin
        have HC := hide fun w => cmp22_any w (fi i) p (fc i) hk12 hp
        have hin' : (i : Int) < n := by omega
        have e0 : (cmpI (fi i) p == 0) = decide (fi i = p) := by
          unfold cmpI
          by_cases h1 : fi i < p
          · rw [if_pos h1]; have : ¬ fi i = p := by omega
            simp [this]
          · rw [if_neg h1]; by_cases h2 : fi i = p <;> simp [h2]
        generalize cmpI (fi i) p = cc at *
        generalize hnm : nm (fi i) = a at *
        generalize hnm2 : nm p = b at *
        clear hnm hnm2
        go_wp2_with (go_at_call 22; go_must (refine (HC.out _).mono ?_); rintro _ w1 ⟨rfl, hb1⟩)
        go_ret2
        refine ⟨i, decide (fi i = p), by simp, hb.trans (hb1.mono hb.size), hjn, HLo.out, HHi.out, fun h => ⟨hin, by simpa using h⟩, fun h k hk e => ?_⟩
        have h' : ¬ fi i = p := by simpa using h
        rcases Nat.lt_trichotomy k i with h1 | h1 | h1
        · have := HLo.out k h1; omega
        · subst h1; exact h' e
        · have := HU.out i k h1 hk; have := HHi.out i (Nat.le_refl _) hin; omega
      · have hin' : ¬ (i : Int) < n := by omega
        go_wp2_with fail
        go_ret2
        refine ⟨i, false, by simp, hb, hjn, HLo.out, HHi.out, (fun h => by cases h), fun _ k hk e => ?_⟩
        have := HLo.out k (by omega); omega
set_option maxHeartbeats 400000 in
theorem find_any (w : World) (L : Nat) (pa : Option Addr) (n cap : Nat) (fi : Nat → Nat) (fc : Nat → Int) (p : Nat) (hp : p ≤ 12) (hn : n ≤ 100) (hF : FewC w pa n fi fc) (hup : ∀ a b, a < b → b < n → fi a < fi b) (hv : w.cell? ⟨L, 4, none⟩ = some (.slice pa n cap)) :
    Calls Yba.prog 16 #[.pointer (some ⟨L, 4, none⟩), .string (nm p)] w (FoundPost w n fi p) := by
  have H := hide (bsearch_any w pa n cap fi fc p hp hn hF hup)
  clear hF hup
  generalize hnm : nm p = b at *
  clear hnm
  go_enter Yba.func16, Yba.ntmps16
  go_wp2_with (go_at_call 21; go_must (refine H.out.mono ?_); rintro _ w1 ⟨pos, fd, rfl, hb1, hfd⟩; have HFD := hide hfd; clear hfd)
  go_ret2
  exact ⟨pos, fd, by simp, hb1, HFD.out⟩
end Go.Proofs.Ybulkcnwo
