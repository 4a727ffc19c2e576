import Derived.Test.YbulkcnwoLawC
namespace Go.Proofs.Ybulkcnwo
open Go.RowKit
theorem nm_eql {a q : Nat} (ha : a ≤ 12) (hq : q ≤ 12) (w : World) : (binOp .eql 9 (.string (nm a)) (.string (nm q))).run Yba.prog w = .ok (.bool (decide (a = q))) w := by
  have h : (binOp .eql 9 (.string (nm a)) (.string (nm q))).run Yba.prog w = .ok (.bool ((nm a).toList == (nm q).toList)) w := by simp [go_sem]
  rw [h]
  congr 2
  by_cases e : a = q
  · subst e; simp
  · have : ¬ (nm a).toList = (nm q).toList := fun e' => e (by
      have e2 : (nm a).data.toList = (nm q).data.toList := by
        have := congrArg (fun l => l) e'
        simpa [ByteArray.toList_eq] using this
      have := nm_inj ⟨a, by omega⟩ ⟨q, by omega⟩ e2
      simpa using this)
    simp [e, this]
theorem neq_same (p : Option Addr) (w : World) : (binOp .neq 37 (.pointer p) (.pointer p)).run Yba.prog w = .ok (.bool false) w := by
  cases p with
  | none => simp [go_sem, Yba.underlying37]
  | some a =>
    obtain ⟨j, hj, _⟩ := Option.map_eq_some_iff.1 info51
    have h : ∀ d : Nat, (Op.equalIn (d + 1) 37 (.pointer (some a)) (.pointer (some a))).run Yba.prog w = .ok true w := fun d => by
      simp [Op.equalIn, run_underlying Yba.underlying37, sizeOf, typeInfo, hj, run_sameAddr_same]
    simp only [binOp]
    simp [Op.equal, Op.maxDepth, h 9999]
theorem nm_beq {a q : Nat} (ha : a ≤ 12) (hq : q ≤ 12) : ((nm a).toList == (nm q).toList) = decide (a = q) := by
  by_cases e : a = q
  · subst e; simp
  · have : ¬ (nm a).toList = (nm q).toList := fun e' => e (by
      have e2 : (nm a).data.toList = (nm q).data.toList := by
        have := congrArg (fun l => l) e'
        simpa [ByteArray.toList_eq] using this
      have := nm_inj ⟨a, by omega⟩ ⟨q, by omega⟩ e2
      simpa using this)
    simp [e, this]
theorem LineAt.below {w w' : World} {L : Nat} {h : Hdr} (k : LineAt w L h) (hb : Below w.heap.size w w') : LineAt w' L h := k.keep ((Keep.refl (fun _ => False) w).below hb) id
theorem CountAt.below {w w' : World} {B : Nat} {few many : Value} {t : Nat} {cnt : Nat → Nat} (h : CountAt w B few many t cnt) (hb : Below w.heap.size w w') : CountAt w' B few many t cnt := h.keep ((Keep.refl (fun _ => False) w).below hb) (fun _ _ h => h) (fun _ _ h => h)
theorem Routes.below {w w' : World} {n : Nat} {bs : Nat → Nat} {rs : Nat → R} (h : Routes w n bs rs) (hb : Below w.heap.size w w') : Routes w' n bs rs := fun i hi => ⟨(h i hi).1.later hb, (h i hi).2⟩
end Go.Proofs.Ybulkcnwo
