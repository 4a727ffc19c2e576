import Derived.Test.YbulkcnwoIns3
namespace Go.Proofs.Ybulkcnwo
open Go.RowKit
theorem zc_size (z : Array Value) (k : Nat) : (Builtin.zeroCells z k).size = k * z.size := by simp [Builtin.zeroCells]
set_option maxHeartbeats 400000 in
theorem insert_grow (w : World) (B g n cap i vb : Nat) (xs : List Value) (s : ByteArray) (c : Int) (hn : n ≤ 100) (hi : i < n) (hroom : cap < n + 1) (h1 : ∀ u ∈ xs, u.oneCell' = true) (hown : w.ownsRow B 74 2 (.slice (some ⟨g, 0, none⟩) n cap) n xs) (hB : B ≤ w.heap.size) (hv : w.heap[vb]? = some (.cells #[.string s, .int .i64 c] 74 (0, 0))) :
    Calls Yba.prog 26 #[.slice (some ⟨g, 0, none⟩) n cap, .int .i64 i, .slice (some ⟨vb, 0, none⟩) 1 1] w (InsPost w B (some ⟨g, 0, none⟩) n (xs.take (i * 2) ++ [.string s, .int .i64 c] ++ xs.drop (i * 2))) := by
  obtain ⟨i0, hi0, hz0, hz1, hz2⟩ := info_parts info74
  obtain ⟨hsh, hnc, hcm, hBg, hxl⟩ := owns_shape hown
  unfold maxLen at hcm
  have hglt := hsh.ty.lt
  have hvlt : vb < w.heap.size := Ty.lt (t := 74) ⟨_, _, hv⟩
  have hcs : ∀ j, j < n * 2 → w.cell? ⟨g, j, none⟩ = xs[j]? := fun j hj => hown.cellAt j hj
  have hvc : ∀ j, w.cell? ⟨vb, j, none⟩ = ([.string s, .int .i64 c] : List Value)[j]? := fun j => by
    simp only [World.cell?, hv]
    simp [← Array.getElem?_toList]
  have hdl : (xs.drop (i * 2)).length = (n - i) * 2 := by rw [List.length_drop, hxl]; omega
  obtain ⟨k, hk⟩ : ∃ k, k = n + 1 - i := ⟨_, rfl⟩
  have hik : i + k = n + 1 := by omega
  have hold : (Builtin.firstCells i0.size i (.slice (some ⟨g, 0, none⟩) i cap)).run Yba.prog w.drew = .ok (xs.take (i * 2)).toArray w.drew := by
    rw [hz1]
    exact run_firstCells_some w.drew 2 i ⟨g, 0, none⟩ i cap (xs.take (i * 2)) (by rw [List.length_take]; omega) (fun j v hj => by
      rw [Addr.add_mid, Nat.zero_add]
      have hj' := (List.getElem?_eq_some_iff.1 hj).1
      rw [List.length_take] at hj'
      rw [List.getElem?_take_of_lt (by omega)] at hj
      exact (hcs j (by omega)).trans hj)
  obtain ⟨G, W1, hrz, hG, hG63, hsh1, hpre, hK1, hsz1⟩ : ∃ G W1, (∀ ty, (Builtin.append_ #[26, 3] ty #[.slice (some ⟨g, 0, none⟩) i cap, .int .i64 (k : Int)]).run Yba.prog w = .ok (.slice (some ⟨w.heap.size, 0, none⟩) (n + 1) G) W1) ∧ n + 1 ≤ G ∧ G ≤ maxLen ∧ Shape W1 w.heap.size 74 (G * 2) ∧ (∀ j, j < i * 2 → W1.cell? ⟨w.heap.size, j, none⟩ = xs[j]?) ∧ Below w.heap.size w W1 ∧ W1.heap.size = w.heap.size + 1 := by
    refine ⟨grownCap w (i + k) cap 74, w.drew.alloc (.cells ((xs.take (i * 2)).toArray ++ Builtin.zeroCells (Value.agg #[.string ⟨#[]⟩, .int .i64 0]).cells k ++ Builtin.zeroCells (Value.agg #[.string ⟨#[]⟩, .int .i64 0]).cells (grownCap w (i + k) cap 74 - (i + k))) 74), fun ty => ?_, ?_, ?_, ?_, ?_, ?_, ?_⟩
    · have h := Lib.run_append_grow_zeros w 26 3 ty 74 i0 _ .i64 .i64 Yba.underlying26 Yba.underlying3 hi0 hz0 (some ⟨g, 0, none⟩) i cap (xs.take (i * 2)) hold k (by omega) (by omega) (by omega) (by omega) (by rw [hz2]; omega) (by rw [hz2]; exact growslice_fits (by omega) (by omega))
      rw [h, hik]
    · rw [hik]; exact grownCap_ge w _ _ _
    · exact grownCap_le_maxLen w _ _ _ (by unfold maxLen; omega)
    · refine ⟨_, new_block, ?_⟩
      have := grownCap_ge w (i + k) cap 74
      simp only [Array.size_append, List.size_toArray, List.length_take, zc_size, Value.cells, List.length_cons, List.length_nil]
      omega
    · intro j hj
      have hb := @new_block w.drew (.cells ((xs.take (i * 2)).toArray ++ Builtin.zeroCells (Value.agg #[.string ⟨#[]⟩, .int .i64 0]).cells k ++ Builtin.zeroCells (Value.agg #[.string ⟨#[]⟩, .int .i64 0]).cells (grownCap w (i + k) cap 74 - (i + k))) 74)
      have hb' : (w.drew.alloc (.cells ((xs.take (i * 2)).toArray ++ Builtin.zeroCells (Value.agg #[.string ⟨#[]⟩, .int .i64 0]).cells k ++ Builtin.zeroCells (Value.agg #[.string ⟨#[]⟩, .int .i64 0]).cells (grownCap w (i + k) cap 74 - (i + k))) 74)).heap[w.heap.size]? = _ := hb
      simp only [World.cell?, hb']
      simp only [Option.isSome_none, Bool.false_eq_true, if_false]
      rw [Array.append_assoc, Array.getElem?_append_left (by simp; omega)]
      simp [List.getElem?_take_of_lt hj]
    · exact (Below.refl _ _).drew.alloc (Nat.le_refl _) _
    · simp
  have hcpA : ∀ ty dc, (Builtin.copy_ #[26, 26] ty #[.slice (some ⟨w.heap.size, i * 2, none⟩) (n + 1 - i) dc, .slice (some ⟨vb, 0, none⟩) 1 1]).run Yba.prog W1 = .ok (goInt (Nat.min 1 (n + 1 - i))) (W1.setCells w.heap.size (i * 2) [.string s, .int .i64 c]) := fun ty dc =>
    run_copy_cells_n W1 26 26 ty 74 w.heap.size (i * 2) _ dc ⟨vb, 0, none⟩ 1 1 2 _ Yba.underlying26 size74 (by simp only [Nat.min_def]; split <;> simp <;> omega)
      (fun j v hj => by
        rw [Addr.add_mid, Nat.zero_add, hK1.cell (p := ⟨vb, j, none⟩) hvlt]
        exact (hvc j).trans hj)
      (fun j hj => hsh1.some _ (by simp at hj; omega)) (fun j hj => hsh1.frozen _) (by intro u hu; simp at hu; rcases hu with rfl | rfl <;> rfl)
  obtain ⟨W2, hW2⟩ : ∃ W2, W2 = W1.setCells w.heap.size (i * 2) [.string s, .int .i64 c] := ⟨_, rfl⟩
  rw [← hW2] at hcpA
  have hsh2 : Shape W2 w.heap.size 74 (G * 2) := by rw [hW2]; exact Shape.setCells _ _ _ _ hsh1
  have hcpB : ∀ ty dc sc, (Builtin.copy_ #[26, 26] ty #[.slice (some ⟨w.heap.size, (i + 1) * 2, none⟩) (n - i) dc, .slice (some ⟨g, i * 2, none⟩) (n - i) sc]).run Yba.prog W2.drew = .ok (goInt (Nat.min (n - i) (n - i))) (W2.drew.setCells w.heap.size ((i + 1) * 2) (xs.drop (i * 2))) := fun ty dc sc =>
    run_copy_cells_n W2.drew 26 26 ty 74 w.heap.size ((i + 1) * 2) _ dc ⟨g, i * 2, none⟩ _ sc 2 _ Yba.underlying26 size74 (by rw [hdl]; simp)
      (fun j v hj => by
        have hj' := (List.getElem?_eq_some_iff.1 hj).1
        rw [Addr.add_mid]
        show W2.cell? _ = _
        rw [hW2, World.cell?_setCells_out _ _ _ _ _ (fun h _ => absurd h (by show g ≠ _; omega)), hK1.cell (p := ⟨g, i * 2 + j, none⟩) hglt]
        rw [List.getElem?_drop] at hj
        exact (hcs (i * 2 + j) (by omega)).trans hj)
      (fun j hj => hsh2.some _ (by omega)) (fun j hj => hsh2.frozen _) (fun v hv => h1 v (List.mem_of_mem_drop hv))
  have HF : Hid (InsPost w B (some ⟨g, 0, none⟩) n (xs.take (i * 2) ++ [.string s, .int .i64 c] ++ xs.drop (i * 2)) (.returned (.slice (some ⟨w.heap.size, 0, none⟩) (n + 1) G)) (W2.drew.setCells w.heap.size ((i + 1) * 2) (xs.drop (i * 2)))) := by
    refine ⟨w.heap.size, G, rfl, owns_of_shape (Shape.setCells _ _ _ _ hsh2) hB hG hG63 (by simp [hxl]; omega) (fun j hj => ?_), ?_⟩
    · by_cases hja : j < i * 2
      · rw [World.cell?_setCells_out _ _ _ _ _ (fun _ _ => .inl (by show j < _; omega))]
        show W2.cell? _ = _
        rw [hW2, World.cell?_setCells_out _ _ _ _ _ (fun _ _ => .inl hja), List.append_assoc, List.getElem?_append_left (by simp; omega), List.getElem?_take_of_lt hja]
        exact hpre j hja
      · by_cases hjb : j < i * 2 + 2
        · rw [World.cell?_setCells_out _ _ _ _ _ (fun _ _ => .inl (by show j < _; omega))]
          show W2.cell? _ = _
          have := World.cell?_setCells_in w.heap.size [.string s, .int .i64 c] (i * 2) W1 (fun k hk => hsh1.some _ (by simp at hk; omega)) (j - i * 2) (by simp; omega)
          rw [show i * 2 + (j - i * 2) = j by omega] at this
          rw [hW2, this, List.append_assoc, List.getElem?_append_right (by simp; omega), List.getElem?_append_left (by simp; omega), List.length_take, Nat.min_eq_left (by omega), List.getElem?_eq_getElem]
        · have := World.cell?_setCells_in w.heap.size (xs.drop (i * 2)) ((i + 1) * 2) W2.drew (fun k hk => hsh2.some _ (by omega)) (j - (i + 1) * 2) (by omega)
          rw [show (i + 1) * 2 + (j - (i + 1) * 2) = j by omega] at this
          rw [this, List.getElem?_append_right (by simp; omega), List.length_append, List.length_take, Nat.min_eq_left (by omega), ← List.getElem?_eq_getElem]
          congr 1
          simp
          omega
    · have k1 : Keep (fun k => (some ⟨g, 0, none⟩ : Option Addr) = some ⟨k, 0, none⟩) w W2 := by rw [hW2]; exact keep_setCells (S := fun k => (some ⟨g, 0, none⟩ : Option Addr) = some ⟨k, 0, none⟩) _ (.inr (Nat.le_refl _)) _ _ _ ((Keep.refl _ _).below hK1)
      exact keep_setCells (S := fun k => (some ⟨g, 0, none⟩ : Option Addr) = some ⟨k, 0, none⟩) _ (.inr (Nat.le_refl _)) _ _ _ k1.drew
  have hb2 : ¬ (G = i + 1) := by omega
  have hb6 : ¬ (G = i) := by omega
  have hb4 : ¬ (cap = i) := by omega
  have hin : (i : Int) < n := by omega
  have hw1 : IntKind.i64.wrap ((i : Int) + 1) = (i : Int) + 1 := by rw [IntKind.wrap_i64]; omega
  have hb1 : (0 : Int) ≤ (i : Int) + 1 := by omega
  have htn : ((i : Int) + 1).toNat = i + 1 := by omega
  have hb3 : (i : Int) ≤ (n : Int) + 1 := by omega
  have hb5 : i ≤ n := by omega
  have hkk : (n : Int) + 1 - i = k := by omega
  have hG64 : (G : Int) ≤ 9223372036854775807 := by unfold maxLen at hG63; omega
  have hcm2 : (cap : Int) ≤ 9223372036854775807 := by omega
  have hkw : IntKind.i64.wrap (k : Int) = k := by rw [IntKind.wrap_i64]; omega
  unfold maxLen at hG63
  have hcpA' := hide hcpA
  have hcpB' := hide hcpB
  generalize xs.take (i * 2) ++ [.string s, .int .i64 c] ++ xs.drop (i * 2) = ys at HF ⊢
  generalize W2.drew.setCells w.heap.size ((i + 1) * 2) (xs.drop (i * 2)) = W3 at HF hcpB'
  have HRZ := hide hrz
  clear hcpA hcpB hcs hvc hdl hW2 hsh hsh1 hsh2 hown hv h1 hxl hold hpre hK1 hrz
  go_enter Yba.func26, Yba.ntmps26
  clear hk hik hi0 hz0 hz1 hz2 hsz1 hcm hG63
  go_wp2_with (first | (at_builtin; refine wpList_append_run rfl (.tmp 34) (.tmp 39) 26 3 rfl _ _ rfl rfl (HRZ.out _) ?_; have hcpA := hcpA'.out))
  clear hcpA
  have hcpB := hcpB'.out
  go_region_held3 (fun _ => True) (trivial) (fail)
  clear hcpB
  go_wp2_with fail
  go_ret
  exact HF.out
/-- Insert of one name. -/
theorem insert_any (w : World) (B : Nat) (pa : Option Addr) (n cap i vb : Nat) (xs : List Value) (s : ByteArray) (c : Int) (hn : n ≤ 100) (hi : i ≤ n) (h1 : ∀ u ∈ xs, u.oneCell' = true) (hown : w.ownsRow B 74 2 (.slice pa n cap) n xs) (hne : ∀ g, pa = some ⟨g, 0, none⟩ → vb ≠ g) (hB : B ≤ w.heap.size) (hv : w.heap[vb]? = some (.cells #[.string s, .int .i64 c] 74 (0, 0))) :
    Calls Yba.prog 26 #[.slice pa n cap, .int .i64 i, .slice (some ⟨vb, 0, none⟩) 1 1] w (InsPost w B pa n (xs.take (i * 2) ++ [.string s, .int .i64 c] ++ xs.drop (i * 2))) := by
  have hxl := hown.1
  have hown' := hown
  rcases hown.2 with ⟨h0, hn0⟩ | ⟨g, cap', cur, hv', -⟩
  · simp only [Value.slice.injEq] at h0
    obtain ⟨rfl, rfl, rfl⟩ := h0
    obtain rfl : i = 0 := by omega
    obtain rfl : xs = [] := List.eq_nil_of_length_eq_zero hxl
    exact insert_nil w B vb s c hv hB
  · simp only [Value.slice.injEq, true_and] at hv'
    obtain ⟨rfl, rfl⟩ := hv'
    by_cases hin : i = n
    · subst hin
      rw [List.take_of_length_le (by omega), List.drop_eq_nil_of_le (by omega), List.append_nil]
      exact insert_end w B g i cap vb xs s c hn hown' hv hB
    · by_cases hr : n + 1 ≤ cap
      · exact insert_shift w B g n cap i vb xs s c hn (by omega) hr h1 hown' (hne g rfl) hv
      · exact insert_grow w B g n cap i vb xs s c hn (by omega) (by omega) h1 hown' hB hv
end Go.Proofs.Ybulkcnwo
