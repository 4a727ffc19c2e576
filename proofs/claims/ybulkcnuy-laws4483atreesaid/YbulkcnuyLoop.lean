import Derived.Test.YbulkcnuyInv
import Derived.Deep.DeepCutAuto
import Derived.Deep.OwnRows
namespace Go.Proofs.Ybulkcnuy
open Go.RowKit

/-- The cut's counts. -/
def cutOf (c0 c1 c2 : Int) (j : Nat) : Nat := if j = 0 then (c0 % 4).toNat else if j = 1 then (c1 % 4).toNat else (c2 % 4).toNat
theorem cutOf_lt (c0 c1 c2 : Int) (j : Nat) : cutOf c0 c1 c2 j < 4 := by unfold cutOf; split <;> (try split) <;> omega
theorem info38 : (Yba.prog.info? 38).map (fun i => (i.zero, i.size, i.bytes)) = some (some (.agg #[.pointer none, .bool false]), 2, 16) := by kernel_rfl
/-- The four bits of an atom, when j of them are laid. -/
def hv (x : Int) : Nat → Array Value
  | 0 => #[.bool false, .bool false, .bool false, .bool false]
  | 1 => #[.bool (bitB x 0), .bool false, .bool false, .bool false]
  | 2 => #[.bool (bitB x 0), .bool (bitB x 1), .bool false, .bool false]
  | 3 => #[.bool (bitB x 0), .bool (bitB x 1), .bool (bitB x 2), .bool false]
  | _ => #[.bool (bitB x 0), .bool (bitB x 1), .bool (bitB x 2), .bool (bitB x 3)]
theorem hv_0 (x : Int) : hv x 0 = #[.bool false, .bool false, .bool false, .bool false] := rfl
theorem hv_1 (x : Int) : hv x 1 = #[.bool (bitB x 0), .bool false, .bool false, .bool false] := rfl
theorem hv_2 (x : Int) : hv x 2 = #[.bool (bitB x 0), .bool (bitB x 1), .bool false, .bool false] := rfl
theorem hv_3 (x : Int) : hv x 3 = #[.bool (bitB x 0), .bool (bitB x 1), .bool (bitB x 2), .bool false] := rfl
theorem hv_4 (x : Int) : hv x 4 = #[.bool (bitB x 0), .bool (bitB x 1), .bool (bitB x 2), .bool (bitB x 3)] := rfl
theorem i64w (n : Nat) (h : n < 4) : IntKind.i64.wrap (n : Int) = n := by
  match n, h with
  | 0, _ => rfl
  | 1, _ => rfl
  | 2, _ => rfl
  | 3, _ => rfl
theorem info30 : (Yba.prog.info? 30).map (fun i => (i.zero, i.size, i.bytes)) = some (some (.pointer none), 1, 8) := by kernel_rfl
theorem Blk.set {w : World} {b : Nat} {t : TypeId} {cs : Array Value} (h : Blk w b t cs) (j : Nat) (u : Value) : Blk (w.setCell ⟨b, j, none⟩ u) b t (cs.setIfInBounds j u) := heap_setCell_same w b j cs t u h
theorem made_size (K : Nat) : (madeCells #[Value.pointer none] K).size = K := size_madeCells _ _
theorem rv_num (base step de : Int) (sh ch : Nat) (h : ch < 4) : (rv base step de sh 4)[ch * 2]? = some (.int .i64 (base + ch * step)) := by
  match ch, h with
  | 0, _ => simp [rv_4]
  | 1, _ => simp [rv_4]
  | 2, _ => simp [rv_4]
  | 3, _ => simp [rv_4]
theorem rv_def (base step de : Int) (sh ch : Nat) (h : ch < 4) : (rv base step de sh 4)[ch * 2 + 1]? = some (.bool (bitB de (sh + ch))) := by
  match ch, h with
  | 0, _ => simp [rv_4]
  | 1, _ => simp [rv_4]
  | 2, _ => simp [rv_4]
  | 3, _ => simp [rv_4]
theorem meets_undef8 : ∀ n : Nat, n < 256 → (meets 8 ((n : Int) % 16) == (bits BinOp.and IntKind.u8 (n : Int) 8 != 0)) = true := by decide +kernel
theorem meets_8 (m : Int) (h0 : 0 ≤ m) (h1 : m ≤ 255) : meets 8 (m % 16) = (bits BinOp.and IntKind.u8 m 8 != 0) := by
  obtain ⟨n, rfl⟩ := Int.eq_ofNat_of_zero_le h0
  have h := meets_undef8 n (by omega)
  rw [beq_iff_eq] at h
  exact h
theorem reading_at (host base step de shi : Int) (m : Bool) (sh : Nat) (hsh : shi = sh) (w : World) (hs : sh ≤ 4) (b0 : -3 ≤ base) (b1 : base ≤ 0) (s0 : 0 ≤ step) (s1 : step ≤ 3) (d0 : 0 ≤ de) (d1 : de ≤ 255) :
    Calls Yba.prog 6 #[.int .i64 host, .bool m, .int .u8 de, .int .i64 shi, .int .i64 base, .int .i64 step] w fun e w' =>
      e = .returned (.agg #[.int .i64 host, .slice (some ⟨w.heap.size + 1, 0, none⟩) 4 4, .bool m]) ∧ Blk w' (w.heap.size + 1) 51 (rv base step de sh 4) ∧ Below w.heap.size w w' := by
  subst hsh
  exact reading_any host base step de m sh w hs b0 b1 s0 s1 d0 d1
theorem base_rng : ∀ n : Nat, n < 256 → -3 ≤ wrap64 (-wrap64 (bits BinOp.and IntKind.u8 ((n : Int) / 16) 3)) ∧ wrap64 (-wrap64 (bits BinOp.and IntKind.u8 ((n : Int) / 16) 3)) ≤ 0 := by decide +kernel
theorem step_rng : ∀ n : Nat, n < 256 → 0 ≤ wrap64 (bits BinOp.and IntKind.u8 ((n : Int) / 64) 3) ∧ wrap64 (bits BinOp.and IntKind.u8 ((n : Int) / 64) 3) ≤ 3 := by decide +kernel
theorem two_cells (W : World) (b : Nat) (t : TypeId) (u v : Value) (h : Blk W b t #[u, v]) : ∀ j x, [u, v][j]? = some x → W.cell? ((⟨b, 0, none⟩ : Addr).add j) = some x := by
  intro j x hx
  match j, hx with
  | 0, hx => simp at hx; subst hx; exact h.cell 0
  | 1, hx => simp at hx; subst hx; exact h.cell 1
theorem two_one (p : Nat) (b : Bool) : ∀ u ∈ [Value.pointer (some ⟨p, 0, none⟩), Value.bool b], u.oneCell' = true := by
  intro u hu
  simp at hu
  rcases hu with rfl | rfl <;> rfl

/-- The body of the first loop of a text. -/
def firstLoop : Code → Option Code
  | .loop c => some c
  | .seq a b => match firstLoop a with
    | some c => some c
    | none => firstLoop b
  | .block _ c => firstLoop c
  | .scope c => firstLoop c
  | .cond _ a b => match firstLoop a with
    | some c => some c
    | none => firstLoop b
  | _ => none
end Go.Proofs.Ybulkcnuy
