import Derived.Test.YbulkcnuyRows
import Derived.WalkKit
import Derived.WalkSpells
import Derived.WalkLawsBesides
import Derived.StillTactics
import Derived.Laws.Pointers
import Derived.Laws.Externs
import Derived.Shelf.Spec.BitsCarry
import Derived.RowKit3
namespace Go.Proofs.Ybulkcnuy
open Go.RowKit

theorem add64_0 (x y : Int) (hx : 0 ≤ x) (hy : 0 ≤ y) (w : World) : (callFunc 19 #[.int .u64 x, .int .u64 y, .int .u64 0]).run Yba.prog w =
    .ok (.value (.tuple #[.int .u64 ((x + y) % 18446744073709551616), .int .u64 ((x + y) / 18446744073709551616)])) w := by
  rw [run_callFunc_extern Yba.func19 (by kernel_rfl) (by kernel_rfl) (by kernel_rfl) (e := add64Entry) (by kernel_rfl), run_add64 x y 0 hx hy (by omega) (by omega)]
  simp only [Result.andThen, Int.add_zero]
/-- The borrow, under a name. -/
def bor (x y : Int) : Int := if x < y then 1 else 0
theorem sub64_0 (x y : Int) (hx : 0 ≤ x) (hy : 0 ≤ y) (hy' : y < 18446744073709551616) (w : World) : (callFunc 18 #[.int .u64 x, .int .u64 y, .int .u64 0]).run Yba.prog w =
    .ok (.value (.tuple #[.int .u64 ((x - y) % 18446744073709551616), .int .u64 (bor x y)])) w := by
  obtain ⟨x, rfl⟩ := Int.eq_ofNat_of_zero_le hx
  obtain ⟨y, rfl⟩ := Int.eq_ofNat_of_zero_le hy
  have h := run_sub64 (P := Yba.prog) x y 0 (by omega) w
  have e1 : (((x + 18446744073709551616 - y - 0) % 18446744073709551616 : Nat) : Int) = ((x : Int) - y) % 18446744073709551616 := by omega
  have e2 : ((if x < y + 0 then 1 else 0 : Nat) : Int) = bor x y := by unfold bor; split <;> split <;> omega
  rw [e1, e2] at h
  rw [run_callFunc_extern Yba.func18 (by kernel_rfl) (by kernel_rfl) (by kernel_rfl) (e := sub64Entry) (by kernel_rfl)]
  exact (congrArg (fun r => Result.andThen r _) h)

/-- What an outcome is, of the two halves. -/
def wsgn (hi lo : Int) : Int := if hi < 0 then 1 else if hi = 0 ∧ lo = 0 then 2 else 4
set_option maxHeartbeats 400000 in
theorem wout_any (hi lo : Int) (w : World) :
    Calls Yba.prog 16 #[.agg #[.int .i64 hi, .int .u64 lo]] w fun e w' => e = .returned (.int .u8 (wsgn hi lo)) ∧ Below w.heap.size w w' := by
  by_cases g1 : hi < 0
  · have e1 : Hid (wsgn hi lo = 1) := by unfold Hid; simp [wsgn, g1]
    go_enter Yba.func16, Yba.ntmps16
    go_wp2
    go_ret
    exact ⟨by rw [e1.out]; rfl, (Below.refl _ _).alloc (Nat.le_refl _) _⟩
  · by_cases g2 : hi = 0
    · subst g2
      by_cases g3 : lo = 0
      · subst g3
        go_enter Yba.func16, Yba.ntmps16
        go_wp2
        go_ret
        exact ⟨rfl, (Below.refl _ _).alloc (Nat.le_refl _) _⟩
      · have e1 : Hid (wsgn 0 lo = 4) := by unfold Hid; simp [wsgn, g3]
        have e2 : (lo == 0) = false := by simp [g3]
        go_enter Yba.func16, Yba.ntmps16
        go_wp2
        go_ret
        exact ⟨by rw [e1.out]; rfl, (Below.refl _ _).alloc (Nat.le_refl _) _⟩
    · have e1 : Hid (wsgn hi lo = 4) := by unfold Hid; simp [wsgn, g1, g2]
      have e2 : (hi == 0) = false := by simp [g2]
      go_enter Yba.func16, Yba.ntmps16
      go_wp2
      go_ret
      exact ⟨by rw [e1.out]; rfl, (Below.refl _ _).alloc (Nat.le_refl _) _⟩
theorem wrapu_nn (n : Int) : 0 ≤ IntKind.u64.wrap n ∧ IntKind.u64.wrap n < 18446744073709551616 := by
  have h : IntKind.u64.wrap n = n % 18446744073709551616 := IntKind.wrap_u64 n
  omega
/-- wide.add: the upper half, the lower half. -/
def addHi (m : Bool) (hi lo n : Int) : Int := match m with
  | false => wrap64 (hi + wrap64 (n / 9223372036854775808 + wrap64 ((lo + IntKind.u64.wrap n) / 18446744073709551616)))
  | true => wrap64 (hi - wrap64 (n / 9223372036854775808 + wrap64 (bor lo (IntKind.u64.wrap n))))
def addLo (m : Bool) (lo n : Int) : Int := match m with
  | false => (lo + IntKind.u64.wrap n) % 18446744073709551616
  | true => (lo - IntKind.u64.wrap n) % 18446744073709551616
set_option maxHeartbeats 400000 in
theorem wadd_any (m : Bool) (hi lo n : Int) (h1 : 0 ≤ lo) (w : World) :
    Calls Yba.prog 15 #[.agg #[.int .i64 hi, .int .u64 lo], .int .i64 n, .bool m] w fun e w' => e = .returned (.agg #[.int .i64 (addHi m hi lo n), .int .u64 (addLo m lo n)]) ∧ Below w.heap.size w w' := by
  obtain ⟨hn, hn'⟩ := (wrapu_nn n)
  cases m
  · go_enter Yba.func15, Yba.ntmps15
    go_wp2_with (simp only [add64_0 lo (IntKind.u64.wrap n) h1 hn])
    exact bodyPost_ret (v := .agg #[.int .i64 (addHi false hi lo n), .int .u64 (addLo false lo n)]) (by simp [results, Yba.results15, go_sem, addHi, addLo]) rfl ⟨rfl, ((Below.refl _ _).alloc (Nat.le_refl _) _).alloc (by simp) _⟩
  · go_enter Yba.func15, Yba.ntmps15
    go_wp2_with (simp only [sub64_0 lo (IntKind.u64.wrap n) h1 hn hn'])
    exact bodyPost_ret (v := .agg #[.int .i64 (addHi true hi lo n), .int .u64 (addLo true lo n)]) (by simp [results, Yba.results15, go_sem, addHi, addLo]) rfl ⟨rfl, ((Below.refl _ _).alloc (Nat.le_refl _) _).alloc (by simp) _⟩

/-! ### the plain arithmetic -/
def sg (m : Bool) (n : Int) : Int := match m with | false => n | true => -n
theorem addLo_rng (m : Bool) (lo n : Int) : 0 ≤ addLo m lo n ∧ addLo m lo n < 18446744073709551616 := by
  cases m <;> simp only [addLo] <;> omega
theorem add_val (m : Bool) (hi lo n : Int) (h1 : 0 ≤ lo) (h2 : lo < 18446744073709551616) (h3 : -4611686018427387904 ≤ hi) (h4 : hi ≤ 4611686018427387904)
    (h5 : -9223372036854775808 ≤ n) (h6 : n ≤ 9223372036854775807) :
    addHi m hi lo n * 18446744073709551616 + addLo m lo n = hi * 18446744073709551616 + lo + sg m n := by
  have hw : IntKind.u64.wrap n = n % 18446744073709551616 := IntKind.wrap_u64 n
  have c0 : 0 ≤ n % 18446744073709551616 := by omega
  have c1 : n % 18446744073709551616 < 18446744073709551616 := by omega
  have c2 : n / 9223372036854775808 = 0 ∧ n % 18446744073709551616 = n ∨ n / 9223372036854775808 = -1 ∧ n % 18446744073709551616 = n + 18446744073709551616 := by omega
  cases m
  · have f1 : 0 ≤ (lo + n % 18446744073709551616) / 18446744073709551616 ∧ (lo + n % 18446744073709551616) / 18446744073709551616 ≤ 1 := by omega
    simp only [addHi, addLo, sg, hw]
    rw [IntWalk.wrap64_in ((lo + n % 18446744073709551616) / 18446744073709551616) (by omega), IntWalk.wrap64_in (n / 9223372036854775808 + _) (by omega), IntWalk.wrap64_in (hi + _) (by omega)]
    omega
  · have f1 : 0 ≤ bor lo (n % 18446744073709551616) ∧ bor lo (n % 18446744073709551616) ≤ 1 := by unfold bor; split <;> omega
    simp only [addHi, addLo, sg, hw]
    rw [IntWalk.wrap64_in (bor lo (n % 18446744073709551616)) (by omega), IntWalk.wrap64_in (_ + _) (by omega), IntWalk.wrap64_in (_ - _) (by omega)]
    unfold bor
    split <;> omega
/-- The sign of a number. -/
def sgn (v : Int) : Int := if v < 0 then 1 else if v = 0 then 2 else 4
theorem wsgn_val (hi lo : Int) (h1 : 0 ≤ lo) (h2 : lo < 18446744073709551616) : wsgn hi lo = sgn (hi * 18446744073709551616 + lo) := by
  unfold wsgn sgn
  by_cases a : hi < 0
  · have b : hi * 18446744073709551616 + lo < 0 := by omega
    simp only [a, b, if_true]
  · have b : ¬ hi * 18446744073709551616 + lo < 0 := by omega
    by_cases c : hi = 0 ∧ lo = 0
    · obtain ⟨rfl, rfl⟩ := c; rfl
    · have d : ¬ hi * 18446744073709551616 + lo = 0 := by omega
      simp only [a, b, c, d, if_false]
end Go.Proofs.Ybulkcnuy
