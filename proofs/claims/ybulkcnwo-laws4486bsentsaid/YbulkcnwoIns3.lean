import Derived.Test.YbulkcnwoIns2
namespace Go.Proofs.Ybulkcnwo
open Go.RowKit
theorem size74' (w : World) : (Go.sizeOf 74).run Yba.prog w = .ok 2 w := by kernel_rfl
theorem over_false (w : World) (vb g o lb cb s : Nat) (hs : s ≠ 0) (hne : vb ≠ g) (hv : Shape w vb 74 2) (hg : Shape w g 74 s) : (callFunc 29 #[.slice (some ⟨vb, 0, none⟩) 1 1, .slice (some ⟨g, o, none⟩) lb cb]).run Yba.prog w = .ok (.value (.bool false)) w := by
  have h1 : w.shape? vb = some (74, 2) := by
    obtain ⟨cur, h, hs⟩ := hv
    simp [World.shape?, h, hs]
  have h2 : w.shape? g = some (74, s) := by
    obtain ⟨cur, h, hs⟩ := hg
    simp [World.shape?, h, hs]
  rw [run_callFunc_extern Yba.func29 (by kernel_rfl) (by kernel_rfl) (by kernel_rfl) (e := Extern.SlicesOverlaps.overlaps #[26, 26] #[4]) (by kernel_rfl),
    Lib.run_overlaps_apart w 26 4 74 Yba.underlying26 2 size74' ⟨vb, 0, none⟩ ⟨g, o, none⟩ 1 1 lb cb hne 74 74 2 s h1 h2 hs (hv.frozen 0) (hv.frozen 2)]
  rfl
set_option maxHeartbeats 1000000 in
theorem insert_shift (w : World) (B g n cap i vb : Nat) (xs : List Value) (s : ByteArray) (c : Int) (hn : n ≤ 100) (hi : i < n) (hroom : n + 1 ≤ cap) (h1 : ∀ u ∈ xs, u.oneCell' = true) (hown : w.ownsRow B 74 2 (.slice (some ⟨g, 0, none⟩) n cap) n xs) (hne : vb ≠ g) (hv : w.heap[vb]? = some (.cells #[.string s, .int .i64 c] 74 (0, 0))) :
    Calls Yba.prog 26 #[.slice (some ⟨g, 0, none⟩) n cap, .int .i64 i, .slice (some ⟨vb, 0, none⟩) 1 1] w (InsPost w B (some ⟨g, 0, none⟩) n (xs.take (i * 2) ++ [.string s, .int .i64 c] ++ xs.drop (i * 2))) := by
  obtain ⟨hsh, hnc, hcm, hBg, hxl⟩ := owns_shape hown
  unfold maxLen at hcm
  have hcs : ∀ j, j < n * 2 → w.cell? ⟨g, j, none⟩ = xs[j]? := fun j hj => hown.cellAt j hj
  have hvc : ∀ j, w.cell? ⟨vb, j, none⟩ = ([.string s, .int .i64 c] : List Value)[j]? := fun j => by
    simp only [World.cell?, hv]
    simp [← Array.getElem?_toList]
  have hov := fun o lb cb => over_false w vb g o lb cb (cap * 2) (by omega) hne ⟨_, hv, rfl⟩ hsh
  have hdl : (xs.drop (i * 2)).length = (n - i) * 2 := by rw [List.length_drop, hxl]; omega
  have hcp1 : ∀ ty dc sc, (Builtin.copy_ #[26, 26] ty #[.slice (some ⟨g, (i + 1) * 2, none⟩) (n - i) dc, .slice (some ⟨g, i * 2, none⟩) (n + 1 - i) sc]).run Yba.prog w.drew = .ok (goInt (Nat.min (n + 1 - i) (n - i))) (w.drew.setCells g ((i + 1) * 2) (xs.drop (i * 2))) := fun ty dc sc =>
    run_copy_cells_n w.drew 26 26 ty 74 g ((i + 1) * 2) _ dc ⟨g, i * 2, none⟩ _ sc 2 _ Yba.underlying26 size74 (by rw [hdl]; simp only [Nat.min_def]; split <;> omega)
      (fun j v hj => by
        have hj' := (List.getElem?_eq_some_iff.1 hj).1
        rw [Addr.add_mid]
        rw [List.getElem?_drop] at hj
        exact (hcs (i * 2 + j) (by omega)).trans hj)
      (fun j hj => hsh.some _ (by omega)) (fun j hj => hsh.frozen _) (fun v hv => h1 v (List.mem_of_mem_drop hv))
  obtain ⟨W1, hW1⟩ : ∃ W1, W1 = w.drew.setCells g ((i + 1) * 2) (xs.drop (i * 2)) := ⟨_, rfl⟩
  rw [← hW1] at hcp1
  have hsh1 : Shape W1 g 74 (cap * 2) := by rw [hW1]; exact Shape.setCells g _ _ _ hsh
  have hcp2 : ∀ ty dc, (Builtin.copy_ #[26, 26] ty #[.slice (some ⟨g, i * 2, none⟩) (n + 1 - i) dc, .slice (some ⟨vb, 0, none⟩) 1 1]).run Yba.prog W1 = .ok (goInt (Nat.min 1 (n + 1 - i))) (W1.setCells g (i * 2) [.string s, .int .i64 c]) := fun ty dc =>
    run_copy_cells_n W1 26 26 ty 74 g (i * 2) _ dc ⟨vb, 0, none⟩ 1 1 2 _ Yba.underlying26 size74 (by simp only [Nat.min_def]; split <;> simp <;> omega)
      (fun j v hj => by
        rw [Addr.add_mid, Nat.zero_add, hW1, World.cell?_setCells_out g _ _ _ _ (fun h _ => absurd h hne)]
        exact (hvc j).trans hj)
      (fun j hj => hsh1.some _ (by simp at hj; omega)) (fun j hj => hsh1.frozen _) (by intro u hu; simp at hu; rcases hu with rfl | rfl <;> rfl)
  have HF : Hid (InsPost w B (some ⟨g, 0, none⟩) n (xs.take (i * 2) ++ [.string s, .int .i64 c] ++ xs.drop (i * 2)) (.returned (.slice (some ⟨g, 0, none⟩) (n + 1) cap)) (W1.setCells g (i * 2) [.string s, .int .i64 c])) := by
    refine ⟨g, cap, rfl, owns_of_shape (Shape.setCells g _ _ _ hsh1) hBg hroom (by unfold maxLen; exact hcm) (by simp [hxl]; omega) (fun j hj => ?_), ?_⟩
    · by_cases hja : j < i * 2
      · rw [World.cell?_setCells_out g _ _ _ _ (fun _ _ => .inl hja), hW1, World.cell?_setCells_out g _ _ _ _ (fun _ _ => .inl (by show j < _; omega))]
        rw [List.append_assoc, List.getElem?_append_left (by simp; omega), List.getElem?_take_of_lt hja]
        exact hcs j (by omega)
      · by_cases hjb : j < i * 2 + 2
        · have := World.cell?_setCells_in g [.string s, .int .i64 c] (i * 2) W1 (fun k hk => hsh1.some _ (by simp at hk; omega)) (j - i * 2) (by simp; omega)
          rw [show i * 2 + (j - i * 2) = j by omega] at this
          rw [this, List.append_assoc, List.getElem?_append_right (by simp; omega), List.getElem?_append_left (by simp; omega), List.length_take, Nat.min_eq_left (by omega), List.getElem?_eq_getElem]
        · rw [World.cell?_setCells_out g _ _ _ _ (fun _ _ => .inr (by show i * 2 + _ ≤ j; simp; omega)), hW1]
          have := World.cell?_setCells_in g (xs.drop (i * 2)) ((i + 1) * 2) w.drew (fun k hk => hsh.some _ (by omega)) (j - (i + 1) * 2) (by omega)
          rw [show (i + 1) * 2 + (j - (i + 1) * 2) = j by omega] at this
          rw [this, List.getElem?_append_right (by simp; omega), List.length_append, List.length_take, Nat.min_eq_left (by omega), ← List.getElem?_eq_getElem]
          congr 1
          simp
          omega
    · have k1 : Keep (fun k => (some ⟨g, 0, none⟩ : Option Addr) = some ⟨k, 0, none⟩) w W1 := by rw [hW1]; exact keep_setCells (S := fun k => (some ⟨g, 0, none⟩ : Option Addr) = some ⟨k, 0, none⟩) g (.inl rfl) _ _ _ (Keep.refl _ _).drew
      exact keep_setCells (S := fun k => (some ⟨g, 0, none⟩ : Option Addr) = some ⟨k, 0, none⟩) g (.inl rfl) _ _ _ k1
  have hb2 : ¬ (cap = i + 1) := by omega
  have hb4 : ¬ (cap = i) := by omega
  have hin : (i : Int) < n := by omega
  have hw1 : IntKind.i64.wrap ((i : Int) + 1) = (i : Int) + 1 := by rw [IntKind.wrap_i64]; omega
  have hb1 : (0 : Int) ≤ (i : Int) + 1 := by omega
  have htn : ((i : Int) + 1).toNat = i + 1 := by omega
  have hb3 : (i : Int) ≤ (n : Int) + 1 := by omega
  have hb5 : i ≤ n := by omega
  have hcp3 := hide hcp1
  have hcp4 := hide hcp2
  generalize xs.take (i * 2) ++ [.string s, .int .i64 c] ++ xs.drop (i * 2) = ys at HF ⊢
  clear hcp1 hcp2 hcs hvc hdl hW1 hsh hsh1 hown hv h1 hxl
  go_enter Yba.func26, Yba.ntmps26
  go_wp2_with (simp only [hov])
  have hcp1 := hcp3.out
  go_region_held3 (fun _ => True) (trivial) (fail)
  clear hcp1
  have hcp2 := hcp4.out
  go_wp2_with fail
  go_ret
  exact HF.out
end Go.Proofs.Ybulkcnwo
