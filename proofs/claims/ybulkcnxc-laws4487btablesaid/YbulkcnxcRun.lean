import Derived.Test.YbulkcnxcRows
import Derived.WalkKit
import Derived.WalkSpells
import Derived.WalkLawsBesides
namespace Go.Proofs.Ybulkcnxc
open Go.RowKit
theorem hide {p : Prop} (h : p) : Hid p := h
/-- Running, of the state's bytes. -/
def runB (s : ByteArray) : Bool :=
  s.toList == [114, 117, 110, 110, 105, 110, 103] || (s.toList == [112, 97, 117, 115, 101, 100] || s.toList == [114, 101, 115, 116, 97, 114, 116, 105, 110, 103])
set_option maxHeartbeats 400000 in
theorem running_any (c0 c1 c2 : Value) (s : ByteArray) (w : World) :
    Calls Yba.prog 6 #[.agg #[c0, c1, c2, .string s]] w fun e w' => e = .returned (.bool (runB s)) ∧ w' = w.alloc (.cells #[c0, c1, c2, .string s] 26) := by
  cases h1 : s.toList == [114, 117, 110, 110, 105, 110, 103]
  · cases h2 : s.toList == [112, 97, 117, 115, 101, 100]
    · cases h3 : s.toList == [114, 101, 115, 116, 97, 114, 116, 105, 110, 103]
      · have HR : Hid (runB s = false) := by show _ = _; simp [runB, h1, h2, h3]
        go_enter Yba.func6, Yba.ntmps6
        go_wp2
        go_ret
        exact ⟨by rw [HR.out]; rfl, rfl⟩
      · have HR : Hid (runB s = true) := by show _ = _; simp [runB, h1, h2, h3]
        go_enter Yba.func6, Yba.ntmps6
        go_wp2
        go_ret
        exact ⟨by rw [HR.out]; rfl, rfl⟩
    · have HR : Hid (runB s = true) := by show _ = _; simp [runB, h1, h2]
      go_enter Yba.func6, Yba.ntmps6
      go_wp2
      go_ret
      exact ⟨by rw [HR.out]; rfl, rfl⟩
  · have HR : Hid (runB s = true) := by show _ = _; simp [runB, h1]
    go_enter Yba.func6, Yba.ntmps6
    go_wp2
    go_ret
    exact ⟨by rw [HR.out]; rfl, rfl⟩
set_option maxHeartbeats 400000 in
theorem model_any (s : ByteArray) (w : World) : Calls Yba.prog 7 #[.string s] w fun e w' => e = .returned (.bool (runB s)) ∧ w' = w := by
  cases h1 : s.toList == [114, 117, 110, 110, 105, 110, 103]
  · cases h2 : s.toList == [112, 97, 117, 115, 101, 100]
    · cases h3 : s.toList == [114, 101, 115, 116, 97, 114, 116, 105, 110, 103]
      · have HR : Hid (runB s = false) := by show _ = _; simp [runB, h1, h2, h3]
        go_enter Yba.func7, Yba.ntmps7
        go_wp2
        go_ret
        exact ⟨by rw [HR.out]; rfl, rfl⟩
      · have HR : Hid (runB s = true) := by show _ = _; simp [runB, h1, h2, h3]
        go_enter Yba.func7, Yba.ntmps7
        go_wp2
        go_ret
        exact ⟨by rw [HR.out]; rfl, rfl⟩
    · have HR : Hid (runB s = true) := by show _ = _; simp [runB, h1, h2]
      go_enter Yba.func7, Yba.ntmps7
      go_wp2
      go_ret
      exact ⟨by rw [HR.out]; rfl, rfl⟩
  · have HR : Hid (runB s = true) := by show _ = _; simp [runB, h1]
    go_enter Yba.func7, Yba.ntmps7
    go_wp2
    go_ret
    exact ⟨by rw [HR.out]; rfl, rfl⟩
end Go.Proofs.Ybulkcnxc
