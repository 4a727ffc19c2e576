import Derived.Test.YbulkcnwaRows
import Derived.WalkKit
import Derived.WalkSpells
import Derived.WalkLawsBesides
import Derived.Below
namespace Go.Proofs.Ybulkcnwa
open Go.RowKit
theorem hide {p : Prop} (h : p) : Hid p := h
/-- The bits of a zone, all zero. -/
def z32 : Array Value := #[.int .u8 0, .int .u8 0, .int .u8 0, .int .u8 0, .int .u8 0, .int .u8 0, .int .u8 0, .int .u8 0, .int .u8 0, .int .u8 0, .int .u8 0, .int .u8 0, .int .u8 0, .int .u8 0, .int .u8 0, .int .u8 0,
  .int .u8 0, .int .u8 0, .int .u8 0, .int .u8 0, .int .u8 0, .int .u8 0, .int .u8 0, .int .u8 0, .int .u8 0, .int .u8 0, .int .u8 0, .int .u8 0, .int .u8 0, .int .u8 0, .int .u8 0, .int .u8 0]
/-- A zone of level n, its bits all zero. -/
def zone (n : Int) : Array Value := #[.int .u8 0, .int .u8 0, .int .u8 0, .int .u8 0, .int .u8 0, .int .u8 0, .int .u8 0, .int .u8 0, .int .u8 0, .int .u8 0, .int .u8 0, .int .u8 0, .int .u8 0, .int .u8 0, .int .u8 0, .int .u8 0,
  .int .u8 0, .int .u8 0, .int .u8 0, .int .u8 0, .int .u8 0, .int .u8 0, .int .u8 0, .int .u8 0, .int .u8 0, .int .u8 0, .int .u8 0, .int .u8 0, .int .u8 0, .int .u8 0, .int .u8 0, .int .u8 0, .int .u16 n]
theorem part_bits (n : Int) (w : World) : (part 27 (zone n) 0).run Yba.prog w = .ok (.agg z32) w := by kernel_rfl
theorem part_level (n : Int) (w : World) : (part 25 (zone n) 32).run Yba.prog w = .ok (.int .u16 n) w := by kernel_rfl
theorem bits_same (w : World) : (Op.equalIn 9999 27 (.agg z32) (.agg z32)).run Yba.prog w = .ok true w := by kernel_rfl
theorem fields29 : (Yba.prog.fieldsOf 29).toList.map (fun f => (f.name, f.type, f.offset)) = [("bits", 27, 0), ("level", 25, 32)] := by kernel_rfl
theorem under29 : Yba.prog.underlying 29 = some (.struct (Yba.prog.fieldsOf 29)) := by kernel_rfl
theorem stood29 : Yba.prog.stoodInHeld 29 = false := by kernel_rfl
theorem zone_same (a b : Int) (w : World) : (Op.equalIn 10000 29 (.agg (zone a)) (.agg (zone b))).run Yba.prog w = .ok (a == b) w := by
  rw [run_equalIn_agg w 9999 29 _ _ under29 stood29]
  have h := fields29
  generalize (Yba.prog.fieldsOf 29).toList = fs at h ⊢
  match fs, h with
  | [], h => simp at h
  | [_], h => simp at h
  | _ :: _ :: _ :: _, h => simp at h
  | [f, g], h =>
    simp only [List.map_cons, List.map_nil, List.cons.injEq, Prod.mk.injEq, and_true] at h
    obtain ⟨⟨n1, t1, o1⟩, n2, t2, o2⟩ := h
    simp only [Op.eqFields, n1, n2, t1, t2, o1, o2, Sem.run_bind, Sem.run_ite, part_bits, part_level, bits_same, Result.andThen_ok, run_equalIn_int w 9998 25 .u16 .u16 a b Yba.underlying25, Sem.run_pure]
    cases (a == b) <;> simp
theorem zone_neq (a b : Int) (w : World) : (binOp .neq 29 (.agg (zone a)) (.agg (zone b))).run Yba.prog w = .ok (.bool (!(a == b))) w := by
  rw [run_neq_struct, zone_same]; rfl
theorem zone_eql (a b : Int) (w : World) : (binOp .eql 29 (.agg (zone a)) (.agg (zone b))).run Yba.prog w = .ok (.bool (a == b)) w := by
  rw [run_eql_struct, zone_same]; rfl
end Go.Proofs.Ybulkcnwa
