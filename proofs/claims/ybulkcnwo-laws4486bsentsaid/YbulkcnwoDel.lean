import Derived.Test.YbulkcnwoIns4
namespace Go.Proofs.Ybulkcnwo
open Go.RowKit
theorem zero74 (w : World) : (zeroValue 74).run Yba.prog w = .ok (.agg #[.string ⟨#[]⟩, .int .i64 0]) w := by kernel_rfl
theorem clear74 (w : World) (ty : TypeId) (g o c : Nat) (hc : ∀ j, j < 2 → (w.cell? ⟨g, o + j, none⟩).isSome = true) (hf : ∀ j, w.frozen? ⟨g, j, none⟩ = false) :
    (Builtin.clear_ #[26] ty #[.slice (some ⟨g, o, none⟩) 1 c]).run Yba.prog w = .ok (.tuple #[]) (w.setCells g o [.string ⟨#[]⟩, .int .i64 0]) := by
  have hst := run_storeCells_cells (P := Yba.prog) g o [.string ⟨#[]⟩, .int .i64 0] 0 w (by simpa using hc) (by intro j _; exact hf _) (by intro u hu; simp at hu; rcases hu with rfl | rfl <;> rfl)
  simp only [Nat.add_zero] at hst
  have hzc : (Builtin.zeroCells (Value.agg #[.string ⟨#[]⟩, .int .i64 0]).cells 1).toList = [.string ⟨#[]⟩, .int .i64 0] := by kernel_rfl
  simp [Builtin.clear_, run_underlying Yba.underlying26, hzc, hst]
theorem step_append_run {P : Program} {ops : Array Oper} {o : Oper} {a : Act} {w : World} {K : Act → World → Prop} {Q : Exit → Act → World → Prop} {E : Prop}
    (hg : o.guard = none) (d x : Operand) (dT sT : TypeId) (hop : o.op = Op.call { callee := Callee.builtin Builtin.append, args := #[d, x], argTypes := #[dT, sT] })
    (v u : Value) (hd : a.eval d = v) (hx : a.eval x = u) {v' : Value} {w' : World} (hr : (Builtin.append_ #[dT, sT] o.type #[v, u]).run P w = .ok v' w') (hK : K (a.put o.dst v') w') :
    if Region.wanted o (yielded ops a.tmps) = true then Oper.wp P o a w K Q else E := by
  have hw : Region.wanted o (yielded ops a.tmps) = true := by simp [Region.wanted, hg]
  rw [if_pos hw]
  unfold Oper.wp execOp
  simp only [hop, resolve, invoke, builtin, Sem.run_bind, Sem.run_pure, Result.andThen_ok, List.map_toArray, List.map_cons, List.map_nil, hd, hx, hr]
  exact hK
def DelPost (w : World) (B g n1 cap : Nat) (ys : List Value) (e : Ending) (w' : World) : Prop :=
  e = .returned (.slice (some ⟨g, 0, none⟩) n1 cap) ∧ w'.ownsRow B 74 2 (.slice (some ⟨g, 0, none⟩) n1 cap) n1 ys ∧ Keep (fun k => k = g) w w'
set_option maxHeartbeats 400000 in
theorem delete_any (w : World) (B g n n1 cap i : Nat) (xs : List Value) (hn1 : n1 + 1 = n) (hi : i < n) (h1 : ∀ u ∈ xs, u.oneCell' = true) (hown : w.ownsRow B 74 2 (.slice (some ⟨g, 0, none⟩) n cap) n xs) :
    Calls Yba.prog 27 #[.slice (some ⟨g, 0, none⟩) n cap, .int .i64 i, .int .i64 (i + 1)] w (DelPost w B g n1 cap (xs.take (i * 2) ++ xs.drop ((i + 1) * 2))) := by
  obtain ⟨i0, hi0, hz0, hz1, hz2⟩ := info_parts info74
  obtain ⟨hsh, hnc, hcm, hBg, hxl⟩ := owns_shape hown
  unfold maxLen at hcm
  have hcs : ∀ j, j < n * 2 → w.cell? ⟨g, j, none⟩ = xs[j]? := fun j hj => hown.cellAt j hj
  have hdl : (xs.drop ((i + 1) * 2)).length = (n - (i + 1)) * 2 := by rw [List.length_drop, hxl]; omega
  obtain ⟨A, hA, hsrc⟩ : ∃ A : Addr, (if cap = i + 1 then some (⟨g, 0, none⟩ : Addr) else some ⟨g, (i + 1) * 2, none⟩) = some A ∧ ∀ t u, (xs.drop ((i + 1) * 2))[t]? = some u → w.drew.cell? (A.add t) = some u := by
    by_cases h : cap = i + 1
    · refine ⟨⟨g, 0, none⟩, by simp [h], fun t u hu => ?_⟩
      have := (List.getElem?_eq_some_iff.1 hu).1
      omega
    · refine ⟨⟨g, (i + 1) * 2, none⟩, by simp [h], fun t u hu => ?_⟩
      have := (List.getElem?_eq_some_iff.1 hu).1
      rw [Addr.add_mid]
      rw [List.getElem?_drop] at hu
      exact (hcs _ (by omega)).trans hu
  obtain ⟨W1, hW1⟩ : ∃ W1, W1 = w.drew.setCells g (i * 2) (xs.drop ((i + 1) * 2)) := ⟨_, rfl⟩
  have hap : ∀ ty, (Builtin.append_ #[26, 26] ty #[.slice (some ⟨g, 0, none⟩) i cap, .slice (some A) (n - (i + 1)) (cap - (i + 1))]).run Yba.prog w.drew = .ok (.slice (some ⟨g, 0, none⟩) n1 cap) W1 := fun ty => by
    have := run_append_room_cells (P := Yba.prog) w.drew 26 ty 74 i0 Yba.underlying26 hi0 g 0 i cap A (n - (i + 1)) (cap - (i + 1)) (xs.drop ((i + 1) * 2)) (by rw [hz1]; exact hdl) hsrc (fun u hu => h1 u (List.mem_of_mem_drop hu)) (by omega)
      (fun j hj => by rw [hz1, Nat.zero_add]; exact hsh.some _ (by omega)) (fun j hj => hsh.frozen _)
    rw [this, hz1, Nat.zero_add, hW1, show i + (n - (i + 1)) = n1 by omega]
  have hsh1 : Shape W1 g 74 (cap * 2) := by rw [hW1]; exact Shape.setCells _ _ _ _ hsh
  have hcl : ∀ ty c, (Builtin.clear_ #[26] ty #[.slice (some ⟨g, n1 * 2, none⟩) 1 c]).run Yba.prog W1 = .ok (.tuple #[]) (W1.setCells g (n1 * 2) [.string ⟨#[]⟩, .int .i64 0]) := fun ty c =>
    clear74 W1 ty g (n1 * 2) c (fun j hj => hsh1.some _ (by omega)) (fun j => hsh1.frozen j)
  have HF : Hid (DelPost w B g n1 cap (xs.take (i * 2) ++ xs.drop ((i + 1) * 2)) (.returned (.slice (some ⟨g, 0, none⟩) n1 cap)) (W1.setCells g (n1 * 2) [.string ⟨#[]⟩, .int .i64 0])) := by
    refine ⟨rfl, owns_of_shape (Shape.setCells _ _ _ _ hsh1) hBg (by omega) (by unfold maxLen; exact hcm) (by simp [hxl]; omega) (fun j hj => ?_), ?_⟩
    · rw [World.cell?_setCells_out _ _ _ _ _ (fun _ _ => .inl (by show j < _; omega)), hW1]
      by_cases hja : j < i * 2
      · rw [World.cell?_setCells_out _ _ _ _ _ (fun _ _ => .inl hja), List.getElem?_append_left (by simp; omega), List.getElem?_take_of_lt hja]
        exact hcs j (by omega)
      · have := World.cell?_setCells_in g (xs.drop ((i + 1) * 2)) (i * 2) w.drew (fun k hk => hsh.some _ (by omega)) (j - i * 2) (by omega)
        rw [show i * 2 + (j - i * 2) = j by omega] at this
        rw [this, List.getElem?_append_right (by simp; omega), List.length_take, Nat.min_eq_left (by omega), List.getElem?_eq_getElem]
    · have k1 : Keep (fun k => k = g) w W1 := by rw [hW1]; exact keep_setCells (S := fun k => k = g) _ (.inl rfl) _ _ _ (Keep.refl _ _).drew
      exact keep_setCells (S := fun k => k = g) _ (.inl rfl) _ _ _ k1
  generalize xs.take (i * 2) ++ xs.drop ((i + 1) * 2) = ys at HF ⊢
  generalize W1.setCells g (n1 * 2) [.string ⟨#[]⟩, .int .i64 0] = W2 at HF hcl
  have HAP := hide hap
  have hc2 : ¬ (cap = n1) := by omega
  have hc3 : ¬ (n = i) := by omega
  have hc4 : ¬ (cap = i) := by omega
  have hnn : n - n1 = 1 := by omega
  have hin : (i : Int) < n := by omega
  have hin2 : (i : Int) + 1 ≤ n := by omega
  have htn : ((i : Int) + 1).toNat = i + 1 := by omega
  have hb1 : (0 : Int) ≤ (i : Int) + 1 := by omega
  have hb2 : (n1 : Int) ≤ n := by omega
  have hncI : (n : Int) ≤ cap := by omega
  have hcmI : (cap : Int) ≤ 9223372036854775807 := by omega
  have hsi : (i : Int) ≤ cap := by omega
  have hb6 : i + 1 ≤ n := by omega
  have hb7 : n1 ≤ n := by omega
  clear hap hcs hdl hsrc hW1 hsh hsh1 hown h1 hxl hi0 hz0 hz1 hz2 hcm hn1
  go_enter Yba.func27, Yba.ntmps27
  go_wp2_with fail
  go_region_held3 (fun _ => True) (trivial) (first | (refine step_append_run rfl (.tmp 22) (.tmp 25) 26 26 rfl _ _ (by simp [Act.eval]) (by simp [Act.eval]) (HAP.out _) ?_))
  go_wp2_with fail
  go_ret
  exact HF.out
end Go.Proofs.Ybulkcnwo
