import Derived.Test.YbulkcnwoRows
import Derived.WalkKit
import Derived.WalkSpells
import Derived.WalkLawsBesides
import Derived.Below
import Derived.Laws.Pointers
import Derived.LaidEqlPtr
namespace Go.Proofs.Ybulkcnwo
open Go.RowKit
theorem hide {p : Prop} (h : p) : Hid p := h
theorem info51 : (Yba.prog.info? 51).map (fun i => i.size) = some 58 := by kernel_rfl
theorem eql_same (w : World) (a : Addr) : (binOp .eql 37 (.pointer (some a)) (.pointer (some a))).run Yba.prog w = .ok (.bool true) w := by
  obtain ⟨j, hj, _⟩ := Option.map_eq_some_iff.1 info51
  exact run_eql_ptr_same w a Yba.underlying37 hj
/-- A pointer to a route: its block, or nil. -/
def rp : Option Nat → Value
  | some b => .pointer (some ⟨b, 0, none⟩)
  | none => .pointer none
set_option maxHeartbeats 400000 in
theorem span_nil (w : World) : Calls Yba.prog 12 #[.pointer none] w fun e w' => e = .returned (.agg #[.pointer none, .pointer none, .pointer none]) ∧ w' = w.alloc (.cells #[.pointer none, .pointer none, .pointer none] 67) := by
  go_enter Yba.func12, Yba.ntmps12
  go_wp2
  exact bodyPost_ret (v := .agg #[.pointer none, .pointer none, .pointer none]) (by simp [results, Yba.results12, go_sem]) rfl ⟨rfl, rfl⟩
set_option maxHeartbeats 400000 in
theorem span_parked (w : World) (b : Nat) (hb : b < w.heap.size) (h : w.cell? ⟨b, 52, none⟩ = some (.bool true)) :
    Calls Yba.prog 12 #[.pointer (some ⟨b, 0, none⟩)] w fun e w' => e = .returned (.agg #[.pointer none, .pointer (some ⟨b, 0, none⟩), .pointer (some ⟨b, 0, none⟩)]) ∧ w' = w.alloc (.cells #[.pointer none, .pointer (some ⟨b, 0, none⟩), .pointer (some ⟨b, 0, none⟩)] 67) := by
  go_enter Yba.func12, Yba.ntmps12
  go_wp2
  exact bodyPost_ret (v := .agg #[.pointer none, .pointer (some ⟨b, 0, none⟩), .pointer (some ⟨b, 0, none⟩)]) (by simp [results, Yba.results12, go_sem]) rfl ⟨rfl, rfl⟩
set_option maxHeartbeats 400000 in
theorem span_out (w : World) (b : Nat) (hb : b < w.heap.size) (h : w.cell? ⟨b, 52, none⟩ = some (.bool false)) :
    Calls Yba.prog 12 #[.pointer (some ⟨b, 0, none⟩)] w fun e w' => e = .returned (.agg #[.pointer (some ⟨b, 0, none⟩), .pointer none, .pointer none]) ∧ w' = w.alloc (.cells #[.pointer (some ⟨b, 0, none⟩), .pointer none, .pointer none] 67) := by
  go_enter Yba.func12, Yba.ntmps12
  go_wp2
  exact bodyPost_ret (v := .agg #[.pointer (some ⟨b, 0, none⟩), .pointer none, .pointer none]) (by simp [results, Yba.results12, go_sem]) rfl ⟨rfl, rfl⟩
end Go.Proofs.Ybulkcnwo
