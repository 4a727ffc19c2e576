import Derived.Test.YbulkcnwoDel
import Derived.Maps.OwnSet
import Derived.Maps.Views
namespace Go.Proofs.Ybulkcnwo
open Go.RowKit
/-- The cells of a row of names and counts. -/
def flatF (n : Nat) (fi : Nat → Nat) (fc : Nat → Int) : List Value := (List.range n).flatMap fun k => [.string (nm (fi k)), .int .i64 (fc k)]
theorem flatF_succ (n : Nat) (fi : Nat → Nat) (fc : Nat → Int) : flatF (n + 1) fi fc = flatF n fi fc ++ [.string (nm (fi n)), .int .i64 (fc n)] := by
  simp [flatF, List.range_succ]
theorem flatF_length (n : Nat) (fi : Nat → Nat) (fc : Nat → Int) : (flatF n fi fc).length = n * 2 := by
  induction n with
  | zero => rfl
  | succ n ih => rw [flatF_succ, List.length_append, ih]; simp; omega
theorem flatF_get (n : Nat) (fi : Nat → Nat) (fc : Nat → Int) (j : Nat) (hj : j < n * 2) : (flatF n fi fc)[j]? = some (if j % 2 = 0 then .string (nm (fi (j / 2))) else .int .i64 (fc (j / 2))) := by
  induction n with
  | zero => omega
  | succ n ih =>
    rw [flatF_succ]
    by_cases h : j < n * 2
    · rw [List.getElem?_append_left (by rw [flatF_length]; exact h)]; exact ih h
    · rw [List.getElem?_append_right (by rw [flatF_length]; omega), flatF_length]
      rcases (show j = n * 2 ∨ j = n * 2 + 1 by omega) with rfl | rfl
      · simp
      · have h1 : (n * 2 + 1) % 2 = 1 := by omega
        have h2 : (n * 2 + 1) / 2 = n := by omega
        simp [h1, h2]
theorem flatF_oneCell (n : Nat) (fi : Nat → Nat) (fc : Nat → Int) : ∀ u ∈ flatF n fi fc, u.oneCell' = true := by
  intro u hu
  simp only [flatF, List.mem_flatMap, List.mem_cons, List.not_mem_nil, or_false] at hu
  obtain ⟨k, _, rfl | rfl⟩ := hu <;> rfl
theorem flatF_eq {n : Nat} {fi : Nat → Nat} {fc : Nat → Int} {ys : List Value} (hl : ys.length = n * 2) (h : ∀ k, k < n → ys[k * 2]? = some (.string (nm (fi k))) ∧ ys[k * 2 + 1]? = some (.int .i64 (fc k))) : ys = flatF n fi fc := by
  apply List.ext_getElem?
  intro j
  by_cases hj : j < n * 2
  · rw [flatF_get n fi fc j hj]
    obtain ⟨a, b⟩ := h (j / 2) (by omega)
    rcases (show j % 2 = 0 ∨ j % 2 = 1 by omega) with e | e
    · rw [show j / 2 * 2 = j by omega] at a; rw [a]; simp [e]
    · rw [show j / 2 * 2 + 1 = j by omega] at b; rw [b]; simp [e]
  · rw [List.getElem?_eq_none (by omega), List.getElem?_eq_none (by rw [flatF_length]; omega)]
theorem flatF_at (n : Nat) (fi : Nat → Nat) (fc : Nat → Int) (k : Nat) (hk : k < n) : (flatF n fi fc)[k * 2]? = some (.string (nm (fi k))) ∧ (flatF n fi fc)[k * 2 + 1]? = some (.int .i64 (fc k)) := by
  constructor
  · rw [flatF_get _ _ _ _ (by omega)]
    have h1 : k * 2 % 2 = 0 := by omega
    have h2 : k * 2 / 2 = k := by omega
    simp [h1, h2]
  · rw [flatF_get _ _ _ _ (by omega)]
    have h1 : (k * 2 + 1) % 2 = 1 := by omega
    have h2 : (k * 2 + 1) / 2 = k := by omega
    simp [h1, h2]
def insF {α : Type} (f : Nat → α) (i : Nat) (x : α) : Nat → α := fun k => if k < i then f k else if k = i then x else f (k - 1)
def delF {α : Type} (f : Nat → α) (i : Nat) : Nat → α := fun k => if k < i then f k else f (k + 1)
theorem flatF_ins (n : Nat) (fi : Nat → Nat) (fc : Nat → Int) (i p : Nat) (c : Int) (hi : i ≤ n) : (flatF n fi fc).take (i * 2) ++ [.string (nm p), .int .i64 c] ++ (flatF n fi fc).drop (i * 2) = flatF (n + 1) (insF fi i p) (insF fc i c) := by
  have hl := flatF_length n fi fc
  refine flatF_eq (by simp [hl]; omega) (fun k hk => ?_)
  by_cases h1 : k < i
  · obtain ⟨a, b⟩ := flatF_at n fi fc k (by omega)
    rw [List.append_assoc, List.getElem?_append_left (by simp [hl]; omega), List.getElem?_append_left (by simp [hl]; omega), List.getElem?_take_of_lt (by omega), List.getElem?_take_of_lt (by omega), a, b]
    simp [insF, h1]
  · by_cases h2 : k = i
    · subst h2
      have e : min (k * 2) (flatF n fi fc).length = k * 2 := by rw [hl]; omega
      constructor
      · rw [List.append_assoc, List.getElem?_append_right (by rw [List.length_take, e]; exact Nat.le_refl _), List.length_take, e]
        simp [insF]
      · rw [List.append_assoc, List.getElem?_append_right (by rw [List.length_take, e]; omega), List.length_take, e, show k * 2 + 1 - k * 2 = 1 by omega]
        simp [insF]
    · obtain ⟨a, b⟩ := flatF_at n fi fc (k - 1) (by omega)
      have e : min (i * 2) (flatF n fi fc).length = i * 2 := by rw [hl]; omega
      rw [List.getElem?_append_right (by simp; omega), List.getElem?_append_right (by simp; omega), List.getElem?_drop, List.getElem?_drop]
      simp only [List.length_append, List.length_take, e, List.length_cons, List.length_nil]
      rw [show i * 2 + (k * 2 - (i * 2 + (0 + 1 + 1))) = (k - 1) * 2 by omega, show i * 2 + (k * 2 + 1 - (i * 2 + (0 + 1 + 1))) = (k - 1) * 2 + 1 by omega, a, b]
      simp [insF, h1, h2]
theorem flatF_del (n n1 : Nat) (fi : Nat → Nat) (fc : Nat → Int) (i : Nat) (hn : n1 + 1 = n) (hi : i < n) : (flatF n fi fc).take (i * 2) ++ (flatF n fi fc).drop ((i + 1) * 2) = flatF n1 (delF fi i) (delF fc i) := by
  have hl := flatF_length n fi fc
  have e : min (i * 2) (flatF n fi fc).length = i * 2 := by rw [hl]; omega
  refine flatF_eq (by simp [hl]; omega) (fun k hk => ?_)
  by_cases h1 : k < i
  · obtain ⟨a, b⟩ := flatF_at n fi fc k (by omega)
    rw [List.getElem?_append_left (by simp [hl]; omega), List.getElem?_append_left (by simp [hl]; omega), List.getElem?_take_of_lt (by omega), List.getElem?_take_of_lt (by omega), a, b]
    simp [delF, h1]
  · obtain ⟨a, b⟩ := flatF_at n fi fc (k + 1) (by omega)
    rw [List.getElem?_append_right (by simp; omega), List.getElem?_append_right (by simp; omega), List.getElem?_drop, List.getElem?_drop]
    simp only [List.length_take, e]
    rw [show (i + 1) * 2 + (k * 2 - i * 2) = (k + 1) * 2 by omega, show (i + 1) * 2 + (k * 2 + 1 - i * 2) = (k + 1) * 2 + 1 by omega, a, b]
    simp [delF, h1]
/-- The names with a count, in order. -/
def Fw (n : Nat) (fi cnt : Nat → Nat) : Prop := (∀ a b, a < b → b < n → fi a < fi b) ∧ (∀ k, k < n → fi k ≤ 12 ∧ 0 < cnt (fi k)) ∧ ∀ p, p ≤ 12 → 0 < cnt p → ∃ k, k < n ∧ fi k = p
def kn (p : Nat) : Lit := .string (nm p).data.toList
def Mp (D : DataW Unit) (cnt : Nat → Nat) : Prop := Maps.IsMap D ∧ ∀ p, p ≤ 12 → Maps.has D (kn p) = decide (0 < cnt p) ∧ D.atKey (kn p) (.lit (.int .i64 0)) = .lit (.int .i64 (cnt p))
def CountAt (w : World) (B : Nat) (few many : Value) (t : Nat) (cnt : Nat → Nat) : Prop :=
  (∃ pa n cap fi, few = .slice pa n cap ∧ many = .map none ∧ n ≤ 8 ∧ w.ownsRow B 74 2 (.slice pa n cap) n (flatF n fi (fun k => cnt (fi k))) ∧ Fw n fi cnt) ∨
  (∃ r m D, few = .slice none 0 0 ∧ many = .map (some r) ∧ B ≤ r ∧ m ≤ t ∧ w.ownsMap (H := Unit) Yba.prog 9 (plainElem Yba.prog 3) r m D ∧ Mp D cnt)
theorem owns_few {w : World} {B : Nat} {pa : Option Addr} {n cap : Nat} {fi : Nat → Nat} {fc : Nat → Int} (h : w.ownsRow B 74 2 (.slice pa n cap) n (flatF n fi fc)) (h12 : ∀ k, k < n → fi k ≤ 12) : FewC w pa n fi fc := fun k hk => by
  have h' := h
  rcases h.2 with ⟨h0, hn0⟩ | ⟨g, cap', cur, hv', -⟩
  · omega
  · simp only [Value.slice.injEq, true_and] at hv'
    obtain ⟨rfl, rfl⟩ := hv'
    obtain ⟨a, b⟩ := flatF_at n fi fc k hk
    exact ⟨g, rfl, (h'.lt g rfl).2, h12 k hk, (h'.cellAt (k * 2) (by omega)).trans a, (h'.cellAt (k * 2 + 1) (by omega)).trans b⟩
theorem law9 : Maps.Keyed Yba.prog 9 := Maps.string_keyed Yba.underlying9
theorem zero3 (w : World) : (zeroValue 3).run Yba.prog w = .ok (.int .i64 0) w := by kernel_rfl
end Go.Proofs.Ybulkcnwo
