import Derived.Test.YbulkcnwoSpan
import Derived.Laws.Cover2
namespace Go.Proofs.Ybulkcnwo
open Go.RowKit
/-- float64(n). -/
def fl (n : Int) : Value := .float .f64 (floatOfInt .f64 n)
def ordAt (a b : Nat) : Bool := FloatKind.f64.format.order (floatOfInt .f64 ((a : Int) - 128)) (floatOfInt .f64 ((b : Int) - 128)) == some (compare a b)
set_option maxRecDepth 100000 in
theorem tab : ((List.range 256).all fun a => (List.range 256).all fun b => ordAt a b) = true := by kernel_rfl
theorem ord_of {a b : Int} (a0 : -128 ≤ a) (a1 : a ≤ 127) (b0 : -128 ≤ b) (b1 : b ≤ 127) :
    FloatKind.f64.format.order (floatOfInt .f64 a) (floatOfInt .f64 b) = some (compare (a + 128).toNat (b + 128).toNat) := by
  have h := tab
  simp only [List.all_eq_true, List.mem_range] at h
  have h2 := h (a + 128).toNat (by omega) (b + 128).toNat (by omega)
  unfold ordAt at h2
  rw [show (((a + 128).toNat : Nat) : Int) - 128 = a by omega, show (((b + 128).toNat : Nat) : Int) - 128 = b by omega] at h2
  simpa using h2
theorem ord_lt {a b : Int} (a0 : -128 ≤ a) (a1 : a ≤ 127) (b0 : -128 ≤ b) (b1 : b ≤ 127) :
    (FloatKind.f64.format.order (floatOfInt .f64 a) (floatOfInt .f64 b) == some .lt) = decide (a < b) := by
  rw [ord_of a0 a1 b0 b1]
  by_cases h : a < b
  · have : (a + 128).toNat < (b + 128).toNat := by omega
    simp [h, Nat.compare_eq_lt.2 this]
  · have : ¬ (a + 128).toNat < (b + 128).toNat := by omega
    simp only [h, decide_false, Option.some_beq_some, beq_eq_false_iff_ne, ne_eq]
    rw [Nat.compare_eq_lt]; exact this
theorem ord_eq {a b : Int} (a0 : -128 ≤ a) (a1 : a ≤ 127) (b0 : -128 ≤ b) (b1 : b ≤ 127) :
    (FloatKind.f64.format.order (floatOfInt .f64 a) (floatOfInt .f64 b) == some .eq) = decide (a = b) := by
  rw [ord_of a0 a1 b0 b1]
  by_cases h : a = b
  · subst h; simp
  · have : ¬ (a + 128).toNat = (b + 128).toNat := by omega
    simp only [h, decide_false, Option.some_beq_some, beq_eq_false_iff_ne, ne_eq]
    rw [Nat.compare_eq_eq]; exact this
end Go.Proofs.Ybulkcnwo
