import Derived.Test.YbulkcnwoLaw
import Derived.Test.YbulkcnwoArgs
import Derived.Laws.Cover2
namespace Go.Proofs.Ybulkcnwo.lawS4486BSent
open Go.ChangeShapes Go.WideShapes Go.ChangeAt Go.RowKit Go.Deep
set_option linter.unusedVariables false

set_option maxHeartbeats 1000000 in
set_option maxRecDepth 100000 in
theorem walk (W : World) (a0 a1 : Option Addr) (n m cap0 cap1 : Nat) (rf : Bool) (hS : ∀ k, k < n → ∃ s, SpecAt W a0 k s) (hM : ∀ k, k < m → ∃ s, MoveAt W a1 k s) :
    Calls Yba.prog 3 #[.slice a0 n cap0, .slice a1 m cap1, .bool rf] W fun e w' => e = .returned (.bool true) ∧ Below W.heap.size W w' := by
  by_cases hn : n ≤ 300
  · by_cases hm : m ≤ 300
    · by_cases hn0 : 0 < n
      · exact law_main W a0 a1 n m cap0 cap1 rf hn0 hn hm hS hM
      · clear hS hM
        obtain rfl : n = 0 := by omega
        have h1 : ¬ (m : Int) > 300 := by omega
        go_enter Yba.func3, Yba.ntmps3
        go_wp2_with fail
        go_ret
        exact ⟨rfl, Below.refl _ _⟩
    · clear hS hM
      have h1 : (m : Int) > 300 := by omega
      have h2 : ¬ (n : Int) > 300 := by omega
      go_enter Yba.func3, Yba.ntmps3
      go_wp2_with fail
      go_ret
      exact ⟨rfl, Below.refl _ _⟩
  · clear hS hM
    have h1 : (n : Int) > 300 := by omega
    go_enter Yba.func3, Yba.ntmps3
    go_wp2_with fail
    go_ret
    exact ⟨rfl, Below.refl _ _⟩

set_option maxRecDepth 100000 in
theorem lifted (os : Os) (started : os.Started) (H : Type) (enc : TypeId × Value → H) :
    ReturnsInHanded {} Yba.checked os 3 .any (Rows.lawS4486BSentSpec.pre6 enc Yba.prog Yba.f3 Rows.lawS4486BSentRow.domain false) (Rows.lawS4486BSentSpec.post enc Yba.prog Yba.f3 false true false false) := by
  refine returnsInHanded_of_change (C := Yba.checked) ownB started (by kernel_rfl) Yba.func3
    (ChangeSpec.witness6 (enc := enc) (C := Yba.checked) false ⟨#[], #[.slice none 0 0, .slice none 0 0, .bool false], []⟩ 8 (by kernel_rfl) (by kernel_rfl) (by kernel_rfl) (by kernel_rfl)) ?_
  intro W base args ds gs before hval0 hW hcnd _
  have hval : ∀ (j : Nat) t v, Yba.f3.params[j]? = some t → args[j]? = some v → Value.okWide Yba.prog W .any base t v := hval0
  have hW' := hW
  obtain ⟨p, q, hA0, hV, rfl, hfz, hnd⟩ := hW
  have hA : DataW.TrodAll enc Yba.prog W 0 (fun _ => true) true Yba.f3.params.toList args.toList ds p := hA0
  rw [Yba.params3] at hA hval
  obtain ⟨v0, vs0, d0, ds0, p0, q0, hargs, rfl, rfl, h0, r0⟩ := trodAll_cons hA
  obtain ⟨v1, vs1, d1, ds1, p1, q1, rfl, rfl, rfl, h1, r1⟩ := trodAll_cons r0
  obtain ⟨v2, vs2, d2, ds2, p2, q2, rfl, rfl, rfl, h2, r2⟩ := trodAll_cons r1
  obtain ⟨rfl, rfl, rfl⟩ := trodAll_nil r2
  obtain rfl : args = #[v0, v1, v2] := by cases args; simp_all
  obtain ⟨rfl, rfl⟩ := trodVars_none hV
  obtain ⟨a0, len0, cap0, rfl⟩ := okWide_slice Yba.underlying22 (hval 0 22 v0 rfl rfl)
  obtain ⟨a1, len1, cap1, rfl⟩ := okWide_slice Yba.underlying23 (hval 1 23 v1 rfl rfl)
  obtain ⟨a2, rfl, rfl, rfl⟩ := open_bool Yba.underlying4 (hval 2 4 v2 rfl rfl) h2
  have k0 := h0
  have k1 := h1
  have lt0 : ∀ x ∈ p0, x.block < W.heap.size := by obtain ⟨m, hm⟩ := k0; exact DataW.trod_lt m _ _ _ hm
  have lt1 : ∀ x ∈ p1, x.block < W.heap.size := by obtain ⟨m, hm⟩ := k1; exact DataW.trod_lt m _ _ _ hm
  have hS : ∀ k, k < len0 → ∃ s, SpecAt W a0 k s := by
    obtain ⟨fuel, hf⟩ := h0
    exact specs_of (fun _ => rfl) hf
  have hM : ∀ k, k < len1 → ∃ s, MoveAt W a1 k s := by
    obtain ⟨fuel, hf⟩ := h1
    exact moves_of (fun _ => rfl) hf
  clear hA0 hval0
  refine (walk W a0 a1 len0 len1 cap0 cap1 a2 hS hM).mono fun e W' ⟨he, bel⟩ => ?_
  subst he
  exact ⟨_, rfl, _, _, _, [], _, [], hW', trodAll_mk1 (shut_bool Yba.underlying4 _), (trodAll_cons_mk (Below.trod laidOut (by kernel_rfl) (of_decide_eq_true (by kernel_rfl)) k0 bel lt0) (trodAll_cons_mk (Below.trod laidOut (by kernel_rfl) (of_decide_eq_true (by kernel_rfl)) k1 bel lt1) (trodAll_cons_mk (shut_bool Yba.underlying4 _) trodAll_mk0))), rfl, bel.frame _, fun h => by cases h⟩

theorem over : Rows.lawS4486BSentRow.holds Yba.pinned (OpenSpec.ofChange Rows.lawS4486BSentSpec) :=
  OpenClaim.holds_of_wide 3 Yba.f3 rfl rfl rfl rfl rfl rfl rfl ⟨rfl, rfl, rfl, rfl, rfl⟩ rfl rfl rfl rfl rfl (by kernel_rfl) Yba.func3 (by kernel_rfl)
    (of_decide_eq_true (by kernel_rfl)) (by unfold Func.isWrapper; first | (rw [if_pos (by decide +kernel)]; kernel_rfl) | (rw [if_neg (by decide +kernel)]; exact ⟨rfl, rfl⟩))
    (fun os started H enc _ => lifted os started H enc)

/-- The statement. -/
theorem proved : Rows.LawS4486BSentSaid := over
end Go.Proofs.Ybulkcnwo.lawS4486BSent
