import Derived.Test.YbulkcnwoKey
import Derived.Deep.RegionHeld3
import Derived.Deep.DeepMust
namespace Go.Proofs.Ybulkcnwo
open Go.RowKit
/-- What the law knows of a route. at: 0 is the empty name, i + 1 the letter i. beat: its block, gen, root. -/
structure R where
  reach : Int
  best : Int
  parked : Bool
  at' : Nat
  beat : Option (Nat × Int × Int)
def R.ok (r : R) : Prop := -128 ≤ r.reach ∧ r.reach ≤ 127 ∧ -128 ≤ r.best ∧ r.best ≤ 127 ∧ r.at' ≤ 12 ∧ (∀ c g t, r.beat = some (c, g, t) → 0 ≤ g ∧ g ≤ 255 ∧ -128 ≤ t ∧ t ≤ 127)
/-- Does gen g, root t come before? -/
def outr (g t g' t' : Int) : Bool := if g = g' then decide (t < t') else decide (g' < g)
/-- route.before. -/
def bef (rf : Bool) (a b : R) : Bool :=
  if rf = false ∧ a.reach ≠ b.reach then decide (a.reach < b.reach)
  else match a.beat, b.beat with
    | some _, none => true
    | none, some _ => false
    | some (_, g, t), some (_, g', t') => if g = g' ∧ t = t' then (if a.reach = b.reach then decide (a.best < b.best) else decide (a.reach < b.reach)) else outr g t g' t'
    | none, none => if a.reach = b.reach then decide (a.best < b.best) else decide (a.reach < b.reach)
def bkey : Option (Nat × Int × Int) → Int
  | none => 65536
  | some (_, g, t) => (255 - g) * 256 + (t + 128)
def key (rf : Bool) (a : R) : Int :=
  if rf then (bkey a.beat * 256 + (a.reach + 128)) * 256 + (a.best + 128) else ((a.reach + 128) * 65537 + bkey a.beat) * 256 + (a.best + 128)
theorem bef_key (rf : Bool) (a b : R) (ha : a.ok) (hb : b.ok) : bef rf a b = decide (key rf a < key rf b) := by
  obtain ⟨a1, a2, a3, a4, -, a5⟩ := ha
  obtain ⟨b1, b2, b3, b4, -, b5⟩ := hb
  cases hba : a.beat with
  | none =>
    cases hbb : b.beat with
    | none =>
      cases rf <;> simp only [bef, key, bkey, hba, hbb] <;> (repeat' split) <;> simp_all <;> omega
    | some y =>
      obtain ⟨c, g, t⟩ := y
      have := b5 c g t hbb
      cases rf <;> simp only [bef, key, bkey, hba, hbb] <;> (repeat' split) <;> simp_all <;> omega
  | some x =>
    obtain ⟨c, g, t⟩ := x
    have := a5 c g t hba
    cases hbb : b.beat with
    | none => cases rf <;> simp only [bef, key, bkey, hba, hbb] <;> (repeat' split) <;> simp_all <;> omega
    | some y =>
      obtain ⟨c', g', t'⟩ := y
      have := b5 c' g' t' hbb
      cases rf <;> simp only [bef, key, bkey, hba, hbb, outr] <;> (repeat' split) <;> simp_all <;> omega
/-- The cells of a rank. -/
def rankC (g t : Int) : Array Value := #[.int .u64 g, fl t, .float .f64 0]
theorem part_gen (g t : Int) (w : World) : (part 44 (rankC g t) 0).run Yba.prog w = .ok (.int .u64 g) w := by kernel_rfl
theorem part_root (g t : Int) (w : World) : (part 38 (rankC g t) 1).run Yba.prog w = .ok (fl t) w := by kernel_rfl
theorem part_depth (g t : Int) (w : World) : (part 38 (rankC g t) 2).run Yba.prog w = .ok (.float .f64 0) w := by kernel_rfl
theorem fields54 : (Yba.prog.fieldsOf 54).toList.map (fun f => (f.name, f.type, f.offset)) = [("Gen", 44, 0), ("Root", 38, 1), ("Depth", 38, 2)] := by kernel_rfl
theorem under54 : Yba.prog.underlying 54 = some (.struct (Yba.prog.fieldsOf 54)) := by kernel_rfl
theorem stood54 : Yba.prog.stoodInHeld 54 = false := by kernel_rfl
theorem equalIn_float (d : Nat) (x y : Nat) (w : World) : (Op.equalIn (d + 1) 38 (.float .f64 x) (.float .f64 y)).run Yba.prog w = .ok (FloatKind.f64.format.order x y == some .eq) w := by
  rw [Op.equalIn, Sem.run_bind, run_underlying Yba.underlying38]
  simp [Op.floatEq]
theorem zz_eq : (FloatKind.f64.format.order 0 0 == some .eq) = true := by kernel_rfl
theorem rank_same {g t g' t' : Int} (t0 : -128 ≤ t) (t1 : t ≤ 127) (t0' : -128 ≤ t') (t1' : t' ≤ 127) (w : World) : (Op.equalIn 10000 54 (.agg (rankC g t)) (.agg (rankC g' t'))).run Yba.prog w = .ok (decide (g = g' ∧ t = t')) w := by
  rw [run_equalIn_agg w 9999 54 _ _ under54 stood54]
  have h := fields54
  generalize (Yba.prog.fieldsOf 54).toList = fs at h ⊢
  match fs, h with
  | [], h => simp at h
  | [_], h => simp at h
  | [_, _], h => simp at h
  | _ :: _ :: _ :: _ :: _, h => simp at h
  | [f, g2, k], h =>
    simp only [List.map_cons, List.map_nil, List.cons.injEq, Prod.mk.injEq, and_true] at h
    obtain ⟨⟨n1, u1, o1⟩, ⟨n2, u2, o2⟩, n3, u3, o3⟩ := h
    simp only [Op.eqFields, n1, n2, n3, u1, u2, u3, o1, o2, o3, Sem.run_bind, Sem.run_ite, part_gen, part_root, part_depth, fl, equalIn_float, Result.andThen_ok, run_equalIn_int w 9998 44 .u64 .u64 g g' Yba.underlying44, Sem.run_pure, ord_eq t0 t1 t0' t1', zz_eq]
    by_cases e1 : g = g' <;> by_cases e2 : t = t' <;> simp [e1, e2]
theorem rank_neq {g t g' t' : Int} (t0 : -128 ≤ t) (t1 : t ≤ 127) (t0' : -128 ≤ t') (t1' : t' ≤ 127) (w : World) : (binOp .neq 54 (.agg #[.int .u64 g, fl t, .float .f64 0]) (.agg #[.int .u64 g', fl t', .float .f64 0])).run Yba.prog w = .ok (.bool (!decide (g = g' ∧ t = t'))) w := by
  have := rank_same (g := g) (g' := g') t0 t1 t0' t1' w
  rw [run_neq_struct]
  exact (congrArg (fun r => Result.andThen r _) this).trans rfl
set_option maxHeartbeats 400000 in
theorem outranks_any (w : World) {g t g' t' : Int} (t0 : -128 ≤ t) (t1 : t ≤ 127) (t0' : -128 ≤ t') (t1' : t' ≤ 127) (hne : ¬ (g = g' ∧ t = t')) :
    Calls Yba.prog 17 #[.agg #[.int .u64 g, fl t, .float .f64 0], .agg #[.int .u64 g', fl t', .float .f64 0]] w fun e w' => e = .returned (.bool (outr g t g' t')) ∧ Below w.heap.size w w' := by
  have hq := ord_eq t0 t1 t0' t1'
  have hl := ord_lt t0 t1 t0' t1'
  have hb : ∀ A B : Obj, Below w.heap.size w ((w.alloc A).alloc B) := fun A B => ((Below.refl _ _).alloc (Nat.le_refl _) A).alloc (by simp) B
  unfold fl
  unfold outr
  have hn : (FloatKind.f64.format.order (floatOfInt FloatKind.f64 t) (floatOfInt FloatKind.f64 t') != some Ordering.eq) = !decide (t = t') := by rw [← hq]; rfl
  clear hq
  by_cases hg : g = g'
  · subst hg
    have ht : ¬ t = t' := fun h => hne ⟨rfl, h⟩
    clear hne
    go_enter Yba.func17, Yba.ntmps17
    go_wp2_with fail
    go_ret
    exact ⟨by simp, hb _ _⟩
  · clear hne
    go_enter Yba.func17, Yba.ntmps17
    go_wp2_with fail
    go_ret
    exact ⟨by simp, hb _ _⟩
/-- The names: 0 is the empty one, i + 1 the letter i. -/
def nm : Nat → ByteArray
  | 0 => ⟨#[]⟩
  | i + 1 => ⟨#[UInt8.ofNat (97 + i)]⟩
/-- A route in block b. -/
def RouteAt (w : World) (b : Nat) (r : R) (p : Nat) : Prop :=
  b < w.heap.size ∧ w.cell? ⟨b, 44, none⟩ = some (fl r.best) ∧ w.cell? ⟨b, 48, none⟩ = some (fl r.reach) ∧ w.cell? ⟨b, 52, none⟩ = some (.bool r.parked) ∧
  (match r.beat with
    | none => w.cell? ⟨b, 39, none⟩ = some (.pointer none)
    | some (c, g, t) => c < w.heap.size ∧ w.cell? ⟨b, 39, none⟩ = some (.pointer (some ⟨c, 0, none⟩)) ∧ w.cell? ⟨c, 0, none⟩ = some (.int .u64 g) ∧ w.cell? ⟨c, 1, none⟩ = some (fl t) ∧ w.cell? ⟨c, 2, none⟩ = some (.float .f64 0)) ∧
  w.cell? ⟨b, 45, none⟩ = some (.string (nm r.at')) ∧ w.cell? ⟨b, 53, none⟩ = some (.int .i64 p) ∧ w.cell? ⟨b, 36, none⟩ = some (.string ⟨#[120]⟩) ∧ ∀ j, w.frozen? ⟨b, j, none⟩ = false
end Go.Proofs.Ybulkcnwo
