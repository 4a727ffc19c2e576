import Derived.Test.YbulkcnuyNodes
namespace Go.Proofs.Ybulkcnuy
open Go.RowKit
theorem Blk.new' {w : World} {n : Nat} {t : TypeId} {cs : Array Value} (hn : n = w.heap.size) : Blk (w.alloc (.cells cs t)) n t cs := by
  subst hn
  exact Blk.new w t cs
/-- zzs4483abit: bit k of x. -/
def bitB (x : Int) (k : Nat) : Bool := bits BinOp.and IntKind.u8 (x / 2 ^ k) 1 == 1
set_option maxHeartbeats 400000 in
theorem bit_any (x ki : Int) (k : Nat) (_hx0 : 0 ≤ x) (_hx1 : x ≤ 255) (hk : ki = k) (h1 : k < 8) (w : World) :
    Calls Yba.prog 5 #[.int .u8 x, .int .i64 ki] w fun e w' => e = .returned (.bool (bitB x k)) ∧ w' = w := by
  subst hk
  go_enter Yba.func5, Yba.ntmps5
  go_wp2_with fail
  go_ret
  exact ⟨rfl, rfl⟩

/-- The four values of a reading, when k of them are laid. -/
def rv (base step de : Int) (sh : Nat) : Nat → Array Value
  | 0 => #[.int .i64 0, .bool false, .int .i64 0, .bool false, .int .i64 0, .bool false, .int .i64 0, .bool false]
  | 1 => #[.int .i64 base, .bool (bitB de sh), .int .i64 0, .bool false, .int .i64 0, .bool false, .int .i64 0, .bool false]
  | 2 => #[.int .i64 base, .bool (bitB de sh), .int .i64 (base + step), .bool (bitB de (sh + 1)), .int .i64 0, .bool false, .int .i64 0, .bool false]
  | 3 => #[.int .i64 base, .bool (bitB de sh), .int .i64 (base + step), .bool (bitB de (sh + 1)), .int .i64 (base + 2 * step), .bool (bitB de (sh + 2)), .int .i64 0, .bool false]
  | _ => #[.int .i64 base, .bool (bitB de sh), .int .i64 (base + step), .bool (bitB de (sh + 1)), .int .i64 (base + 2 * step), .bool (bitB de (sh + 2)), .int .i64 (base + 3 * step), .bool (bitB de (sh + 3))]

theorem rv_0 (base step de : Int) (sh : Nat) : rv base step de sh 0 = #[.int .i64 0, .bool false, .int .i64 0, .bool false, .int .i64 0, .bool false, .int .i64 0, .bool false] := rfl
theorem rv_1 (base step de : Int) (sh : Nat) : rv base step de sh 1 = #[.int .i64 base, .bool (bitB de sh), .int .i64 0, .bool false, .int .i64 0, .bool false, .int .i64 0, .bool false] := rfl
theorem rv_2 (base step de : Int) (sh : Nat) : rv base step de sh 2 = #[.int .i64 base, .bool (bitB de sh), .int .i64 (base + step), .bool (bitB de (sh + 1)), .int .i64 0, .bool false, .int .i64 0, .bool false] := rfl
theorem rv_3 (base step de : Int) (sh : Nat) : rv base step de sh 3 = #[.int .i64 base, .bool (bitB de sh), .int .i64 (base + step), .bool (bitB de (sh + 1)), .int .i64 (base + 2 * step), .bool (bitB de (sh + 2)), .int .i64 0, .bool false] := rfl
theorem rv_4 (base step de : Int) (sh : Nat) : rv base step de sh 4 = #[.int .i64 base, .bool (bitB de sh), .int .i64 (base + step), .bool (bitB de (sh + 1)), .int .i64 (base + 2 * step), .bool (bitB de (sh + 2)), .int .i64 (base + 3 * step), .bool (bitB de (sh + 3))] := rfl
set_option maxHeartbeats 1000000 in
theorem reading_any (host base step de : Int) (m : Bool) (sh : Nat) (w : World) (hs : sh ≤ 4) (b0 : -3 ≤ base) (b1 : base ≤ 0) (s0 : 0 ≤ step) (s1 : step ≤ 3) (d0 : 0 ≤ de) (d1 : de ≤ 255) :
    Calls Yba.prog 6 #[.int .i64 host, .bool m, .int .u8 de, .int .i64 sh, .int .i64 base, .int .i64 step] w fun e w' =>
      e = .returned (.agg #[.int .i64 host, .slice (some ⟨w.heap.size + 1, 0, none⟩) 4 4, .bool m]) ∧ Blk w' (w.heap.size + 1) 51 (rv base step de sh 4) ∧ Below w.heap.size w w' := by
  have hmk : ∀ w, (Instr.makeSlice 40 (.int .i64 4) (.int .i64 4)).run Yba.prog w = .ok (.slice (some ⟨w.heap.size, 0, none⟩) 4 4) (w.alloc (.cells #[.int .i64 0, .bool false, .int .i64 0, .bool false, .int .i64 0, .bool false, .int .i64 0, .bool false] 51)) := fun _ => by kernel_rfl
  go_enter Yba.func6, Yba.ntmps6
  go_wp2_with fail
  go_loopw [14] (fun i wr => ∃ k : Nat, k ≤ 4 ∧ i = .int .i64 k ∧ wr = (w.alloc (.cells #[.int .i64 0, .slice none 0 0, .bool false] 42)).alloc (.cells (rv base step de sh k) 51)) (fun i _ => 4 - (intOf i).toNat)
  case atStart => exact ⟨0, Nat.zero_le _, rfl, rfl⟩
  case round =>
    obtain ⟨k, hk, rfl, rfl⟩ := hrel
    match k, hk with
    | 0, _ =>
      rw [rv_0]
      go_wp2_with (go_at_call 5; refine (bit_any de _ (sh + 0) d0 d1 (by omega) (by omega) _).mono ?_; rintro e w' ⟨rfl, rfl⟩)
      exact ⟨⟨1, by omega, by go_num, by rw [rv_1]⟩, by simp [intOf]⟩
    | 1, _ =>
      rw [rv_1]
      go_wp2_with (go_at_call 5; refine (bit_any de _ (sh + 1) d0 d1 (by omega) (by omega) _).mono ?_; rintro e w' ⟨rfl, rfl⟩)
      exact ⟨⟨2, by omega, by go_num, by rw [rv_2]⟩, by simp [intOf]⟩
    | 2, _ =>
      rw [rv_2]
      go_wp2_with (go_at_call 5; refine (bit_any de _ (sh + 2) d0 d1 (by omega) (by omega) _).mono ?_; rintro e w' ⟨rfl, rfl⟩)
      exact ⟨⟨3, by omega, by go_num, by rw [rv_3]⟩, by simp [intOf]⟩
    | 3, _ =>
      rw [rv_3]
      go_wp2_with (go_at_call 5; refine (bit_any de _ (sh + 3) d0 d1 (by omega) (by omega) _).mono ?_; rintro e w' ⟨rfl, rfl⟩)
      exact ⟨⟨4, by omega, by go_num, by rw [rv_4]⟩, by simp [intOf]⟩
    | 4, _ =>
      rw [rv_4]
      go_wp2_with fail
      exact bodyPost_ret (v := .agg #[.int .i64 host, .slice (some ⟨w.heap.size + 1, 0, none⟩) 4 4, .bool m]) (by simp [results, Yba.results6, go_sem]) rfl ⟨rfl, by rw [rv_4]; exact Blk.new' (by simp), ((Below.refl _ _).alloc (Nat.le_refl _) _).alloc (by simp) _⟩
end Go.Proofs.Ybulkcnuy
