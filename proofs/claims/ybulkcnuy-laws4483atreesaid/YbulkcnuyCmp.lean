import Derived.Test.YbulkcnuyEvalCmp
namespace Go.Proofs.Ybulkcnuy
open Go.RowKit

/-- cmp.Compare at int64. -/
def cmpI (x y : Int) : Int := if x < y then -1 else if y < x then 1 else 0
theorem isnan_any (x : Int) (w : World) : Calls Yba.prog 10 #[.int .i64 x] w fun e w' => e = .returned (.bool false) ∧ w' = w := by
  go_enter Yba.func10, Yba.ntmps10
  go_wp2
  go_ret
  exact ⟨by simp, rfl⟩
set_option maxHeartbeats 400000 in
theorem cmp_any (x y : Int) (w : World) : Calls Yba.prog 8 #[.int .i64 x, .int .i64 y] w fun e w' => e = .returned (.int .i64 (cmpI x y)) ∧ w' = w := by
  by_cases h1 : x < y
  · have e1 : Hid (cmpI x y = -1) := by unfold Hid; simp [cmpI, h1]
    go_enter Yba.func8, Yba.ntmps8
    go_wp2_with (go_at_call 10; refine (isnan_any _ _).mono ?_; rintro e w' ⟨rfl, rfl⟩)
    go_ret
    exact ⟨by rw [e1.out]; rfl, rfl⟩
  · by_cases h2 : y < x
    · have e1 : Hid (cmpI x y = 1) := by unfold Hid; simp [cmpI, h1, h2]
      go_enter Yba.func8, Yba.ntmps8
      go_wp2_with (go_at_call 10; refine (isnan_any _ _).mono ?_; rintro e w' ⟨rfl, rfl⟩)
      go_ret
      exact ⟨by rw [e1.out]; rfl, rfl⟩
    · have e1 : Hid (cmpI x y = 0) := by unfold Hid; simp [cmpI, h1, h2]
      go_enter Yba.func8, Yba.ntmps8
      go_wp2_with (go_at_call 10; refine (isnan_any _ _).mono ?_; rintro e w' ⟨rfl, rfl⟩)
      go_ret
      exact ⟨by rw [e1.out]; rfl, rfl⟩
theorem sign_any (c : Int) (w : World) : Calls Yba.prog 7 #[.int .i64 c] w fun e w' => e = .returned (.int .u8 (sgn c)) ∧ w' = w := by
  by_cases h1 : c < 0
  · have e1 : Hid (sgn c = 1) := by unfold Hid; simp [sgn, h1]
    go_enter Yba.func7, Yba.ntmps7
    go_wp2
    go_ret
    exact ⟨by rw [e1.out]; rfl, rfl⟩
  · by_cases h2 : c = 0
    · subst h2
      go_enter Yba.func7, Yba.ntmps7
      go_wp2
      go_ret
      exact ⟨rfl, rfl⟩
    · have e1 : Hid (sgn c = 4) := by unfold Hid; simp [sgn, h1, h2]
      have e2 : (c == 0) = false := by simp [h2]
      go_enter Yba.func7, Yba.ntmps7
      go_wp2
      go_ret
      exact ⟨by rw [e1.out]; rfl, rfl⟩
theorem sgn_cmp (x y : Int) : sgn (cmpI x y) = sgn (x - y) := by
  unfold cmpI
  by_cases h1 : x < y
  · rw [if_pos h1]; unfold sgn; rw [if_pos (by decide), if_pos (by omega)]
  · rw [if_neg h1]
    by_cases h2 : y < x
    · rw [if_pos h2]; unfold sgn; rw [if_neg (by decide), if_neg (by decide), if_neg (by omega), if_neg (by omega)]
    · rw [if_neg h2]; unfold sgn; rw [if_neg (by decide), if_pos rfl, if_neg (by omega), if_pos (by omega)]
end Go.Proofs.Ybulkcnuy
