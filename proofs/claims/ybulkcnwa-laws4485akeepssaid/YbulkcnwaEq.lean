import Derived.Test.YbulkcnwaZone
import Derived.Deep.RegionHeld3
namespace Go.Proofs.Ybulkcnwa
open Go.RowKit
/-- A []string that can be read: each of its n cells holds a string. -/
def Texts (w : World) (a : Option Addr) (n : Nat) : Prop :=
  ∀ j, j < n → ∃ b off : Nat, ∃ s : ByteArray, a = some ⟨b, off, none⟩ ∧ b < w.heap.size ∧ w.cell? ⟨b, off + j, none⟩ = some (.string s)
theorem Texts.later {w w' : World} {a : Option Addr} {n : Nat} (h : Texts w a n) (hb : Below w.heap.size w w') : Texts w' a n := by
  intro j hj
  obtain ⟨b, off, s, rfl, hlt, hc⟩ := h j hj
  exact ⟨b, off, s, rfl, Nat.lt_of_lt_of_le hlt hb.size, (hb.cell (by exact hlt)).trans hc⟩
set_option maxHeartbeats 400000 in
theorem equal_same (w : World) (a : Option Addr) (n c : Nat) (hn : n ≤ maxLen) (ht : Texts w a n) :
    Calls Yba.prog 8 #[.slice a n c, .slice a n c] w fun e w' => e = .returned (.bool true) ∧ Below w.heap.size w w' := by
  unfold maxLen at hn
  have HT := hide ht
  clear ht
  go_enter Yba.func8, Yba.ntmps8
  go_wp2_with fail
  go_loopw [13] (fun i wr => ∃ k : Nat, k ≤ n ∧ i = .int .i64 k ∧ Below w.heap.size w wr) (fun i _ => n - (intOf i).toNat)
  case atStart => exact ⟨0, Nat.zero_le _, rfl, Below.refl _ _⟩
  case round =>
    obtain ⟨k, hk, rfl, hb⟩ := hrel
    by_cases hlt : k < n
    · obtain ⟨b, off, s, rfl, hbl, hc⟩ := (HT.out.later hb) k hlt
      have hlt' : (k : Int) < n := by omega
      go_wp2_with fail
      go_region
      go_wp2_with fail
      go_roundw
      case rel => exact ⟨k + 1, by omega, by go_num, hb.drew⟩
      case measure => simp [intOf]; omega
    · go_wp2_with fail
      go_ret
      exact ⟨rfl, hb⟩
end Go.Proofs.Ybulkcnwa
