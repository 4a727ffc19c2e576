import Derived.Test.YbulkcnuyCmp
import Derived.ProofKit
import Derived.OpenShut
import Derived.ShutString
namespace Go.Proofs.Ybulkcnuy.lawS4483AWide
open Go.ChangeShapes Go.WideShapes Go.ChangeAt Go.RowKit
open Go.ChangeMaps (open_string shut_string)
set_option linter.unusedVariables false

theorem hide {p : Prop} (h : p) : Hid p := h
theorem own : ownKnob Yba.prog.godebug = none := by kernel_rfl

/-- The world in which the law calls eval. -/
abbrev Wd (w : World) (C : Array Value) (a0 mask : Int) (m : Bool) (i : Int) : World :=
  ((((w.alloc (.cells C 51)).alloc (.cells #[.int .i64 0, .slice (some ⟨w.heap.size, 0, none⟩) 3 3, .bool m] 42)).alloc
    (.cells #[.int .i64 (a0 / 9223372036854775808), .int .u64 (IntKind.u64.wrap a0), .slice (some ⟨w.heap.size + 1, 0, none⟩) 1 1] 49)).alloc
    (.cells #[.int .i64 4, .int .i64 0, .slice none 0 0, .slice none 0 0, .pointer (some ⟨w.heap.size + 1 + 1, 0, none⟩), .int .u8 mask] 36)).alloc (.cells #[.int .i32 i] 21)

theorem eval_here (w : World) (C : Array Value) (a0 a1 mask : Int) (m df : Bool) (i : Nat) (ii : Int) (hii : ii = i) (hi : i < 3) (h1 : C[i * 2]? = some (.int .i64 a1)) (h2 : C[i * 2 + 1]? = some (.bool df))
    (l0 : -9223372036854775808 ≤ a0) (l1 : a0 ≤ 9223372036854775807) (l2 : -9223372036854775808 ≤ a1) (l3 : a1 ≤ 9223372036854775807) :
    Calls Yba.prog 9 #[.pointer (some ⟨w.heap.size + 1 + 1 + 1, 0, none⟩), .slice (some ⟨w.heap.size + 1 + 1 + 1 + 1, 0, none⟩) 1 1] (Wd w C a0 mask m ii) fun e w' =>
      e = .returned (.bool (meets (dOut [(a1, df, m)] a0) mask)) ∧ Below w.heap.size w w' := by
  subst hii
  have hw : IntKind.u64.wrap a0 = a0 % 18446744073709551616 := IntKind.wrap_u64 a0
  have hr := wrapu_nn a0
  have hv : a0 = (a0 / 9223372036854775808) * 18446744073709551616 + IntKind.u64.wrap a0 := by rw [hw]; omega
  have hB : Below w.heap.size w (Wd w C a0 mask m i) :=
    (((((Below.refl _ _).alloc (Nat.le_refl _) _).alloc (by simp) _).alloc (by simp; omega) _).alloc (by simp; omega) _).alloc (by simp; omega) _
  have hD : DiffAt (Wd w C a0 mask m i) (w.heap.size + 1 + 1) (w.heap.size + 1 + 1 + 1 + 1) 1 [(a1, df, m)] a0 := by
    refine ⟨a0 / 9223372036854775808, IntKind.u64.wrap a0, w.heap.size + 1, 1, hv, hr.1, hr.2, by omega, by omega, by simp, by simp [Wd], by simp [Wd, go_sem], by simp [Wd, go_sem], by simp [Wd, go_sem], ?_⟩
    intro k hk
    obtain rfl : k = 0 := by simpa using hk
    refine ⟨0, w.heap.size, 3, 3, i, by omega, hi, l2, l3, by simp [Wd, go_sem], by simp [Wd, go_sem], by simp [Wd, go_sem], by simp [Wd, go_sem], ?_, ?_, by simp [Wd], by simp [Wd], by simp [Wd]; omega⟩
    · simp [Wd, go_sem, h1]
    · simp [Wd, go_sem, h2]
  refine (eval_cmp [(a1, df, m)] a0 mask (w.heap.size + 1 + 1 + 1) (w.heap.size + 1 + 1) (w.heap.size + 1 + 1 + 1 + 1) 1 1 _ (by simp [Wd]) (by simp [Wd, go_sem]) (by simp [Wd, go_sem]) (by simp [Wd, go_sem]) hD).mono ?_
  rintro e w' ⟨rfl, hb⟩
  exact ⟨rfl, hB.trans (hb.mono hB.size)⟩

theorem meets_undef : ∀ n : Nat, n < 256 → (meets 8 ((n : Int) % 16) == (bits BinOp.and IntKind.u8 (n : Int) 8 != 0)) = true := by decide +kernel

theorem plain_undef (a1 a0 a5 : Int) (m : Bool) (h0 : 0 ≤ a5) (h1 : a5 ≤ 255) : meets (dOut [(a1, false, m)] a0) (a5 % 16) = (bits BinOp.and IntKind.u8 a5 8 != 0) := by
  obtain ⟨n, rfl⟩ := Int.eq_ofNat_of_zero_le h0
  have h := meets_undef n (by omega)
  rw [beq_iff_eq] at h
  exact h
theorem plain_minus (a0 a1 : Int) (mask : Int) : meets (dOut [(a1, true, true)] a0) mask = (bits BinOp.and IntKind.u8 (sgn (cmpI a0 a1)) mask != 0) := by
  rw [sgn_cmp]; rfl
theorem plain_least (a0 a1 mask : Int) (l1 : a0 ≤ 9223372036854775807) (h : a1 = -9223372036854775808) : meets (dOut [(a1, true, false)] a0) mask = (bits BinOp.and IntKind.u8 1 mask != 0) := by
  have : dOut [(a1, true, false)] a0 = 1 := by
    show sgn (a0 + a1) = 1
    unfold sgn; rw [if_pos (by omega)]
  rw [this]; rfl
theorem plain_plus (a0 a1 mask : Int) : meets (dOut [(a1, true, false)] a0) mask = (bits BinOp.and IntKind.u8 (sgn (cmpI a0 (-a1))) mask != 0) := by
  rw [sgn_cmp, Int.sub_neg]; rfl

set_option maxHeartbeats 1000000 in
theorem walk0 (a0 : Int) (a1 : Int) (a2 : Bool) (a3 : Bool) (a4 : Int) (a5 : Int) (l0 : -9223372036854775808 ≤ a0) (l1 : a0 ≤ 9223372036854775807) (l2 : -9223372036854775808 ≤ a1) (l3 : a1 ≤ 9223372036854775807)
    (b1 : 0 ≤ a4) (b2 : a4 ≤ 255) (b3 : 0 ≤ a5) (b4 : a5 ≤ 255) (h3 : a4 % 3 = 0) (w : World) :
    Calls Yba.prog 4 #[.int .i64 a0, .int .i64 a1, .bool a2, .bool a3, .int .u8 a4, .int .u8 a5] w fun e w' => e = .returned (.bool true) ∧ Below w.heap.size w w' := by
  have hmk : ∀ w, (Instr.makeSlice 40 (.int .i64 3) (.int .i64 3)).run Yba.prog w = .ok (.slice (some ⟨w.heap.size, 0, none⟩) 3 3) (w.alloc (.cells #[.int .i64 0, .bool false, .int .i64 0, .bool false, .int .i64 0, .bool false] 51)) := fun _ => by kernel_rfl
  have he := fun df => eval_here w #[.int .i64 a1, .bool df, .int .i64 0, .bool false, .int .i64 0, .bool false] a0 a1 (a5 % 16) a2 df 0 0 rfl (by omega) rfl rfl l0 l1 l2 l3
  have HE := hide he
  clear he
  cases a3
  · have HP := hide (plain_undef a1 a0 a5 a2 b3 b4)
    go_enter Yba.func4, Yba.ntmps4
    go_wp2_with (go_at_call 9; refine (HE.out _).mono ?_; rintro e w' ⟨rfl, hb⟩; rw [HP.out])
    go_ret
    exact ⟨by simp, hb⟩
  · cases a2
    · by_cases hm : a1 = -9223372036854775808
      · have HP := hide (plain_least a0 a1 (a5 % 16) l1 hm)
        have hm' : (a1 == -9223372036854775808) = true := by simp [hm]
        clear hm
        go_enter Yba.func4, Yba.ntmps4
        go_wp2_with (first | (go_at_call 9; refine (HE.out _).mono ?_; rintro e w' ⟨rfl, hb⟩; rw [HP.out]))
        go_ret
        exact ⟨by simp, hb⟩
      · have HP := hide (plain_plus a0 a1 (a5 % 16))
        have hm' : (a1 == -9223372036854775808) = false := by simp [hm]
        have l4 : -9223372036854775807 ≤ a1 := by omega
        clear hm
        go_enter Yba.func4, Yba.ntmps4
        go_wp2_with (first | (go_at_call 8; refine (cmp_any _ _ _).mono ?_; rintro e w' ⟨rfl, rfl⟩) | (go_at_call 7; refine (sign_any _ _).mono ?_; rintro e w' ⟨rfl, rfl⟩) | (go_at_call 9; refine (HE.out _).mono ?_; rintro e w' ⟨rfl, hb⟩; rw [HP.out]))
        go_ret
        exact ⟨by simp, hb⟩
    · have HP := hide (plain_minus a0 a1 (a5 % 16))
      go_enter Yba.func4, Yba.ntmps4
      go_wp2_with (first | (go_at_call 8; refine (cmp_any _ _ _).mono ?_; rintro e w' ⟨rfl, rfl⟩) | (go_at_call 7; refine (sign_any _ _).mono ?_; rintro e w' ⟨rfl, rfl⟩) | (go_at_call 9; refine (HE.out _).mono ?_; rintro e w' ⟨rfl, hb⟩; rw [HP.out]))
      go_ret
      exact ⟨by simp, hb⟩
set_option maxHeartbeats 1000000 in
theorem walk1 (a0 : Int) (a1 : Int) (a2 : Bool) (a3 : Bool) (a4 : Int) (a5 : Int) (l0 : -9223372036854775808 ≤ a0) (l1 : a0 ≤ 9223372036854775807) (l2 : -9223372036854775808 ≤ a1) (l3 : a1 ≤ 9223372036854775807)
    (b1 : 0 ≤ a4) (b2 : a4 ≤ 255) (b3 : 0 ≤ a5) (b4 : a5 ≤ 255) (h3 : a4 % 3 = 1) (w : World) :
    Calls Yba.prog 4 #[.int .i64 a0, .int .i64 a1, .bool a2, .bool a3, .int .u8 a4, .int .u8 a5] w fun e w' => e = .returned (.bool true) ∧ Below w.heap.size w w' := by
  have hmk : ∀ w, (Instr.makeSlice 40 (.int .i64 3) (.int .i64 3)).run Yba.prog w = .ok (.slice (some ⟨w.heap.size, 0, none⟩) 3 3) (w.alloc (.cells #[.int .i64 0, .bool false, .int .i64 0, .bool false, .int .i64 0, .bool false] 51)) := fun _ => by kernel_rfl
  have he := fun df => eval_here w #[.int .i64 0, .bool false, .int .i64 a1, .bool df, .int .i64 0, .bool false] a0 a1 (a5 % 16) a2 df 1 1 rfl (by omega) rfl rfl l0 l1 l2 l3
  have HE := hide he
  clear he
  cases a3
  · have HP := hide (plain_undef a1 a0 a5 a2 b3 b4)
    go_enter Yba.func4, Yba.ntmps4
    go_wp2_with (go_at_call 9; refine (HE.out _).mono ?_; rintro e w' ⟨rfl, hb⟩; rw [HP.out])
    go_ret
    exact ⟨by simp, hb⟩
  · cases a2
    · by_cases hm : a1 = -9223372036854775808
      · have HP := hide (plain_least a0 a1 (a5 % 16) l1 hm)
        have hm' : (a1 == -9223372036854775808) = true := by simp [hm]
        clear hm
        go_enter Yba.func4, Yba.ntmps4
        go_wp2_with (first | (go_at_call 9; refine (HE.out _).mono ?_; rintro e w' ⟨rfl, hb⟩; rw [HP.out]))
        go_ret
        exact ⟨by simp, hb⟩
      · have HP := hide (plain_plus a0 a1 (a5 % 16))
        have hm' : (a1 == -9223372036854775808) = false := by simp [hm]
        have l4 : -9223372036854775807 ≤ a1 := by omega
        clear hm
        go_enter Yba.func4, Yba.ntmps4
        go_wp2_with (first | (go_at_call 8; refine (cmp_any _ _ _).mono ?_; rintro e w' ⟨rfl, rfl⟩) | (go_at_call 7; refine (sign_any _ _).mono ?_; rintro e w' ⟨rfl, rfl⟩) | (go_at_call 9; refine (HE.out _).mono ?_; rintro e w' ⟨rfl, hb⟩; rw [HP.out]))
        go_ret
        exact ⟨by simp, hb⟩
    · have HP := hide (plain_minus a0 a1 (a5 % 16))
      go_enter Yba.func4, Yba.ntmps4
      go_wp2_with (first | (go_at_call 8; refine (cmp_any _ _ _).mono ?_; rintro e w' ⟨rfl, rfl⟩) | (go_at_call 7; refine (sign_any _ _).mono ?_; rintro e w' ⟨rfl, rfl⟩) | (go_at_call 9; refine (HE.out _).mono ?_; rintro e w' ⟨rfl, hb⟩; rw [HP.out]))
      go_ret
      exact ⟨by simp, hb⟩
set_option maxHeartbeats 1000000 in
theorem walk2 (a0 : Int) (a1 : Int) (a2 : Bool) (a3 : Bool) (a4 : Int) (a5 : Int) (l0 : -9223372036854775808 ≤ a0) (l1 : a0 ≤ 9223372036854775807) (l2 : -9223372036854775808 ≤ a1) (l3 : a1 ≤ 9223372036854775807)
    (b1 : 0 ≤ a4) (b2 : a4 ≤ 255) (b3 : 0 ≤ a5) (b4 : a5 ≤ 255) (h3 : a4 % 3 = 2) (w : World) :
    Calls Yba.prog 4 #[.int .i64 a0, .int .i64 a1, .bool a2, .bool a3, .int .u8 a4, .int .u8 a5] w fun e w' => e = .returned (.bool true) ∧ Below w.heap.size w w' := by
  have hmk : ∀ w, (Instr.makeSlice 40 (.int .i64 3) (.int .i64 3)).run Yba.prog w = .ok (.slice (some ⟨w.heap.size, 0, none⟩) 3 3) (w.alloc (.cells #[.int .i64 0, .bool false, .int .i64 0, .bool false, .int .i64 0, .bool false] 51)) := fun _ => by kernel_rfl
  have he := fun df => eval_here w #[.int .i64 0, .bool false, .int .i64 0, .bool false, .int .i64 a1, .bool df] a0 a1 (a5 % 16) a2 df 2 2 rfl (by omega) rfl rfl l0 l1 l2 l3
  have HE := hide he
  clear he
  cases a3
  · have HP := hide (plain_undef a1 a0 a5 a2 b3 b4)
    go_enter Yba.func4, Yba.ntmps4
    go_wp2_with (go_at_call 9; refine (HE.out _).mono ?_; rintro e w' ⟨rfl, hb⟩; rw [HP.out])
    go_ret
    exact ⟨by simp, hb⟩
  · cases a2
    · by_cases hm : a1 = -9223372036854775808
      · have HP := hide (plain_least a0 a1 (a5 % 16) l1 hm)
        have hm' : (a1 == -9223372036854775808) = true := by simp [hm]
        clear hm
        go_enter Yba.func4, Yba.ntmps4
        go_wp2_with (first | (go_at_call 9; refine (HE.out _).mono ?_; rintro e w' ⟨rfl, hb⟩; rw [HP.out]))
        go_ret
        exact ⟨by simp, hb⟩
      · have HP := hide (plain_plus a0 a1 (a5 % 16))
        have hm' : (a1 == -9223372036854775808) = false := by simp [hm]
        have l4 : -9223372036854775807 ≤ a1 := by omega
        clear hm
        go_enter Yba.func4, Yba.ntmps4
        go_wp2_with (first | (go_at_call 8; refine (cmp_any _ _ _).mono ?_; rintro e w' ⟨rfl, rfl⟩) | (go_at_call 7; refine (sign_any _ _).mono ?_; rintro e w' ⟨rfl, rfl⟩) | (go_at_call 9; refine (HE.out _).mono ?_; rintro e w' ⟨rfl, hb⟩; rw [HP.out]))
        go_ret
        exact ⟨by simp, hb⟩
    · have HP := hide (plain_minus a0 a1 (a5 % 16))
      go_enter Yba.func4, Yba.ntmps4
      go_wp2_with (first | (go_at_call 8; refine (cmp_any _ _ _).mono ?_; rintro e w' ⟨rfl, rfl⟩) | (go_at_call 7; refine (sign_any _ _).mono ?_; rintro e w' ⟨rfl, rfl⟩) | (go_at_call 9; refine (HE.out _).mono ?_; rintro e w' ⟨rfl, hb⟩; rw [HP.out]))
      go_ret
      exact ⟨by simp, hb⟩
theorem walk (a0 : Int) (a1 : Int) (a2 : Bool) (a3 : Bool) (a4 : Int) (a5 : Int) (w0 : (Lit.int .i64 a0).wf = true) (w1 : (Lit.int .i64 a1).wf = true) (w4 : (Lit.int .u8 a4).wf = true) (w5 : (Lit.int .u8 a5).wf = true) (w : World) :
    Calls Yba.prog 4 #[.int .i64 a0, .int .i64 a1, .bool a2, .bool a3, .int .u8 a4, .int .u8 a5] w fun e w' => e = .returned (.bool true) ∧ Below w.heap.size w w' := by
  obtain ⟨b1, b2⟩ := bounds_u8 w4
  obtain ⟨b3, b4⟩ := bounds_u8 w5
  obtain ⟨l0, l1⟩ := bounds_i64 w0
  obtain ⟨l2, l3⟩ := bounds_i64 w1
  rcases (show a4 % 3 = 0 ∨ a4 % 3 = 1 ∨ a4 % 3 = 2 by omega) with h3 | h3 | h3
  · exact walk0 a0 a1 a2 a3 a4 a5 l0 l1 l2 l3 b1 b2 b3 b4 h3 w
  · exact walk1 a0 a1 a2 a3 a4 a5 l0 l1 l2 l3 b1 b2 b3 b4 h3 w
  · exact walk2 a0 a1 a2 a3 a4 a5 l0 l1 l2 l3 b1 b2 b3 b4 h3 w

/-! ### THE ROW's STEP: WRITTEN OUT: LEAVE IT -/
set_option maxRecDepth 100000 in
theorem lifted (os : Os) (started : os.Started) (H : Type) (enc : TypeId × Value → H) :
    ReturnsInHanded {} Yba.checked os 4 .any (Rows.lawS4483AWideSpec.pre6 enc Yba.prog Yba.f4 Rows.lawS4483AWideRow.domain false) (Rows.lawS4483AWideSpec.post enc Yba.prog Yba.f4 false true false false) := by
  refine returnsInHanded_of_change (C := Yba.checked) own started (by kernel_rfl) Yba.func4
    (ChangeSpec.witness6 (enc := enc) (C := Yba.checked) false ⟨#[], #[.int .i64 0, .int .i64 0, .bool false, .bool false, .int .u8 0, .int .u8 0], []⟩ 8 (by kernel_rfl) (by kernel_rfl) (by kernel_rfl) (by kernel_rfl)) ?_
  intro W base args ds gs before hval0 hW hcnd _
  have hval : ∀ (j : Nat) t v, Yba.f4.params[j]? = some t → args[j]? = some v → Value.okWide Yba.prog W .any base t v := hval0
  have hW' := hW
  obtain ⟨p, q, hA0, hV, rfl, hfz, hnd⟩ := hW
  have hA : DataW.TrodAll enc Yba.prog W 0 (fun _ => true) true Yba.f4.params.toList args.toList ds p := hA0
  rw [Yba.params4] at hA hval
  obtain ⟨v0, vs0, d0, ds0, p0, q0, hargs, rfl, rfl, h0, r0⟩ := trodAll_cons hA
  obtain ⟨v1, vs1, d1, ds1, p1, q1, rfl, rfl, rfl, h1, r1⟩ := trodAll_cons r0
  obtain ⟨v2, vs2, d2, ds2, p2, q2, rfl, rfl, rfl, h2, r2⟩ := trodAll_cons r1
  obtain ⟨v3, vs3, d3, ds3, p3, q3, rfl, rfl, rfl, h3, r3⟩ := trodAll_cons r2
  obtain ⟨v4, vs4, d4, ds4, p4, q4, rfl, rfl, rfl, h4, r4⟩ := trodAll_cons r3
  obtain ⟨v5, vs5, d5, ds5, p5, q5, rfl, rfl, rfl, h5, r5⟩ := trodAll_cons r4
  obtain ⟨rfl, rfl, rfl⟩ := trodAll_nil r5
  obtain rfl : args = #[v0, v1, v2, v3, v4, v5] := by cases args; simp_all
  obtain ⟨rfl, rfl⟩ := trodVars_none hV
  obtain ⟨a0, rfl, rfl, rfl, w0⟩ := open_int Yba.underlying2 (hval 0 2 v0 rfl rfl) h0
  obtain ⟨a1, rfl, rfl, rfl, w1⟩ := open_int Yba.underlying2 (hval 1 2 v1 rfl rfl) h1
  obtain ⟨a2, rfl, rfl, rfl⟩ := open_bool Yba.underlying4 (hval 2 4 v2 rfl rfl) h2
  obtain ⟨a3, rfl, rfl, rfl⟩ := open_bool Yba.underlying4 (hval 3 4 v3 rfl rfl) h3
  obtain ⟨a4, rfl, rfl, rfl, w4⟩ := open_int Yba.underlying5 (hval 4 5 v4 rfl rfl) h4
  obtain ⟨a5, rfl, rfl, rfl, w5⟩ := open_int Yba.underlying5 (hval 5 5 v5 rfl rfl) h5
  clear hA0 hval0
  simp only [List.append_nil] at hW'
  refine (walk a0 a1 a2 a3 a4 a5 w0 w1 w4 w5 W).mono fun e W' ⟨he, hg⟩ => ?_
  subst he
  exact ⟨_, rfl, _, _, _, [], _, [], hW', trodAll_mk1 (shut_bool Yba.underlying4 _), (trodAll_cons_mk (shut_int Yba.underlying2 w0) (trodAll_cons_mk (shut_int Yba.underlying2 w1) (trodAll_cons_mk (shut_bool Yba.underlying4 _) (trodAll_cons_mk (shut_bool Yba.underlying4 _) (trodAll_cons_mk (shut_int Yba.underlying5 w4) (trodAll_cons_mk (shut_int Yba.underlying5 w5) trodAll_mk0)))))), rfl, hg.frame _, fun h => by cases h⟩

theorem over : Rows.lawS4483AWideRow.holds Yba.pinned (OpenSpec.ofChange Rows.lawS4483AWideSpec) :=
  OpenClaim.holds_of_wide 4 Yba.f4 rfl rfl rfl rfl rfl rfl rfl ⟨rfl, rfl, rfl, rfl, rfl⟩ rfl rfl rfl rfl rfl (by kernel_rfl) Yba.func4 (by kernel_rfl)
    (of_decide_eq_true (by kernel_rfl)) (by unfold Func.isWrapper; first | (rw [if_pos (by decide +kernel)]; kernel_rfl) | (rw [if_neg (by decide +kernel)]; exact ⟨rfl, rfl⟩))
    (fun os started H enc _ => lifted os started H enc)

/-- The statement. -/
theorem proved : Rows.LawS4483AWideSaid :=
  over
end Go.Proofs.Ybulkcnuy.lawS4483AWide
