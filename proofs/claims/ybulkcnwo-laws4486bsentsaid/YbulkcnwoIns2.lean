import Derived.Test.YbulkcnwoIns
namespace Go.Proofs.Ybulkcnwo
open Go.RowKit
/-- What Insert leaves: the new slice owns the row; no block that stood is turned but the old row. -/
def InsPost (w : World) (B : Nat) (pa : Option Addr) (n : Nat) (ys : List Value) (e : Ending) (w' : World) : Prop :=
  ∃ g' cap', e = .returned (.slice (some ⟨g', 0, none⟩) (n + 1) cap') ∧ w'.ownsRow B 74 2 (.slice (some ⟨g', 0, none⟩) (n + 1) cap') (n + 1) ys ∧ Keep (fun k => pa = some ⟨k, 0, none⟩) w w'
set_option maxHeartbeats 1000000 in
theorem insert_nil (w : World) (B vb : Nat) (s : ByteArray) (c : Int) (hv : w.heap[vb]? = some (.cells #[.string s, .int .i64 c] 74 (0, 0))) (hB : B ≤ w.heap.size) :
    Calls Yba.prog 26 #[.slice none 0 0, .int .i64 0, .slice (some ⟨vb, 0, none⟩) 1 1] w (InsPost w B none 0 [.string s, .int .i64 c]) := by
  obtain ⟨i0, hi, hz0, hz1, hz2⟩ := info_parts info74
  have HN : Hid (∀ j u, ([.string s, .int .i64 c] : List Value)[j]? = some u → w.cell? ((⟨vb, 0, none⟩ : Addr).add j) = some u) := fun j u hj => by
    rw [Addr.add_mid, Nat.zero_add]
    simp only [World.cell?, hv]
    simpa [← Array.getElem?_toList] using hj
  clear hv
  go_enter Yba.func26, Yba.ntmps26
  go_wp2_with (first | (at_builtin; refine wpList_append_own_at _ rfl (.tmp 23) (.tmp 24) 26 rfl B 74 i0 _ 2 24 Yba.underlying26 hi hz0 hz1 hz2 rfl (by decide) (.slice none 0 0) 0 [] rfl (World.ownsRow_nil _ _ _ _) ⟨vb, 0, none⟩ 1 1 [.string s, .int .i64 c] rfl rfl HN.out (by intro u hu; simp at hu; rcases hu with rfl | rfl <;> rfl) (by decide) (by omega) hB ?_; intro v2 w2 hown2 hgr2 hnil2 hat2))
  rcases hown2.2 with ⟨rfl, h0⟩ | ⟨g2, c2, cur, rfl, -⟩
  · omega
  · have hb2 : Keep (fun k => (none : Option Addr) = some ⟨k, 0, none⟩) w w2 := (Keep.refl _ _).grown hgr2 (fun k e => by cases e)
    have HO2 := hide hown2
    clear hown2 hgr2 hnil2 hat2
    go_wp2_with fail
    go_ret
    exact ⟨g2, c2, by simp, HO2.out, hb2⟩
set_option maxHeartbeats 1000000 in
theorem insert_end (w : World) (B g n cap vb : Nat) (xs : List Value) (s : ByteArray) (c : Int) (hn : n ≤ 100) (hown : w.ownsRow B 74 2 (.slice (some ⟨g, 0, none⟩) n cap) n xs) (hv : w.heap[vb]? = some (.cells #[.string s, .int .i64 c] 74 (0, 0))) (hB : B ≤ w.heap.size) :
    Calls Yba.prog 26 #[.slice (some ⟨g, 0, none⟩) n cap, .int .i64 n, .slice (some ⟨vb, 0, none⟩) 1 1] w (InsPost w B (some ⟨g, 0, none⟩) n (xs ++ [.string s, .int .i64 c])) := by
  obtain ⟨i0, hi, hz0, hz1, hz2⟩ := info_parts info74
  have HN : Hid (∀ j u, ([.string s, .int .i64 c] : List Value)[j]? = some u → w.cell? ((⟨vb, 0, none⟩ : Addr).add j) = some u) := fun j u hj => by
    rw [Addr.add_mid, Nat.zero_add]
    simp only [World.cell?, hv]
    simpa [← Array.getElem?_toList] using hj
  clear hv
  obtain ⟨-, hnc, hcm, -⟩ := owns_shape hown
  unfold maxLen at hcm
  have HO := hide hown
  clear hown
  obtain ⟨AA, hAA⟩ : ∃ AA : Addr, (if cap = n then some (⟨g, 0, none⟩ : Addr) else some ⟨g, n * 2, none⟩) = some AA := by split <;> exact ⟨_, rfl⟩
  go_enter Yba.func26, Yba.ntmps26
  go_wp2_with (first | (at_builtin; refine wpList_append_own_at _ rfl (.tmp 23) (.tmp 24) 26 rfl B 74 i0 _ 2 24 Yba.underlying26 hi hz0 hz1 hz2 rfl (by decide) (.slice (some ⟨g, 0, none⟩) n cap) n xs rfl HO.out ⟨vb, 0, none⟩ 1 1 [.string s, .int .i64 c] rfl rfl HN.out (by intro u hu; simp at hu; rcases hu with rfl | rfl <;> rfl) (by unfold maxLen; omega) (by omega) hB ?_; intro v2 w2 hown2 hgr2 hnil2 hat2))
  rcases hown2.2 with ⟨rfl, h0⟩ | ⟨g2, c2, cur, rfl, -⟩
  · omega
  · have hb2 : Keep (fun k => (some ⟨g, 0, none⟩ : Option Addr) = some ⟨k, 0, none⟩) w w2 := (Keep.refl _ _).grown hgr2 (fun k e => by simp [Value.ownBlock] at e; subst e; exact .inl rfl)
    have HO2 := hide hown2
    clear hown2 hgr2 hnil2 hat2
    go_wp2_with fail
    go_ret
    exact ⟨g2, c2, by simp, HO2.out, hb2⟩
end Go.Proofs.Ybulkcnwo
