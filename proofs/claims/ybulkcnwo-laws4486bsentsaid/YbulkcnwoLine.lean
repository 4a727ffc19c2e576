import Derived.Test.YbulkcnwoAdd2
namespace Go.Proofs.Ybulkcnwo
open Go.RowKit
/-- A line with no route yet. -/
def L0 (w : World) (L : Nat) (rf : Bool) : Prop := LineAt w L ⟨.slice none 0 0, 0, 0, 0, .slice none 0 0, .map none, .slice none 0 0, rf⟩
theorem count0 (w : World) (B t : Nat) : CountAt w B (.slice none 0 0) (.map none) t (fun _ => 0) :=
  .inl ⟨none, 0, 0, fun _ => 0, rfl, rfl, by omega, World.ownsRow_nil _ _ _ _, fun _ _ _ h => by omega, fun _ h => by omega, fun _ _ h => absurd h (Nat.lt_irrefl 0)⟩
theorem add_first (w : World) (B L gs b : Nat) (bs : Nat → Nat) (rs : Nat → R) (r : R) (rf : Bool) (hBL : B ≤ L) (hL : L0 w L rf) (hN : NewRoute w B b r) (hgs : Ty w gs 37) :
    Calls Yba.prog 6 #[.pointer (some ⟨L, 0, none⟩), .pointer (some ⟨b, 0, none⟩)] w (AddPost w B L 1 gs (upd bs 0 b) (upd rs 0 r) rf (upd (fun _ => 0) r.at' 1) 10) := by
  have e : upd (fun _ => 0) r.at' 1 = upd (fun _ => 0) r.at' ((fun _ => 0 : Nat → Nat) r.at' + 1) := rfl
  rw [e]
  cases hp : r.parked
  · exact add_grow_f w B L gs b none 0 0 0 0 0 none bs rs r (fun _ => 0) 0 _ _ rf (by omega) hBL (by omega) (by omega) (fun _ => rfl) rfl hL (World.ownsRow_nil _ _ _ _) (fun i hi => by omega) (fun i hi => by omega) (count0 w B 0) (by omega) (fun _ => by omega) hN (fun i hi => by omega) hgs (by simp) hp
  · exact add_grow_t w B L gs b none 0 0 0 0 0 none bs rs r (fun _ => 0) 0 _ _ rf (by omega) hBL (by omega) (by omega) (fun _ => rfl) rfl hL (World.ownsRow_nil _ _ _ _) (fun i hi => by omega) (fun i hi => by omega) (count0 w B 0) (by omega) (fun _ => by omega) hN (fun i hi => by omega) hgs (by simp) hp
theorem add_next (w : World) (B L gs b n gR t : Nat) (bs : Nat → Nat) (rs : Nat → R) (r : R) (cnt : Nat → Nat) (rf : Bool) (hn0 : 0 < n) (hn : n ≤ 300) (hBL : B ≤ L) (hLI : LI w B L n bs rs rf cnt t gR) (hgR : gR ≠ gs) (ht : t ≤ 900000) (hcb : ∀ x, cnt x ≤ 90000) (hN : NewRoute w B b r) (hnb : ∀ i, i < n → bs i ≠ b) (hgs : Ty w gs 37) :
    Calls Yba.prog 6 #[.pointer (some ⟨L, 0, none⟩), .pointer (some ⟨b, 0, none⟩)] w (AddPost w B L (n + 1) gs (upd bs n b) (upd rs n r) rf (upd cnt r.at' (cnt r.at' + 1)) (t + 10)) := by
  obtain ⟨capR, gS, size, ee, sp, few, many, par, hL, hrow, hR, hT, hBS, hS, hIn, hTr, hee, hns, hsz, hC, hp0, hp1⟩ := hLI
  have hgr : (some ⟨gR, 0, none⟩ : Option Addr) ≠ some ⟨gs, 0, none⟩ := fun e => hgR (by injection e with e; injection e)
  by_cases e : n < size
  · cases hp : r.parked
    · exact add_room_f w B L gs b _ n capR gS size ee t bs rs r sp cnt par few many rf hn hBL hBS hp0 hp1 hL hrow hR hT hS hIn hTr hee e hsz hC ht hcb hN hnb hgs hgr hp
    · exact add_room_t w B L gs b _ n capR gS size ee t bs rs r sp cnt par few many rf hn hBL hBS hp0 hp1 hL hrow hR hT hS hIn hTr hee e hsz hC ht hcb hN hnb hgs hgr hp
  · obtain rfl : size = n := by omega
    cases hp : r.parked
    · exact add_grow_f w B L gs b _ size capR t (2 * size) (2 * size) _ bs rs r cnt par few many rf hn hBL hp0 hp1 (fun h => by omega) rfl hL hrow hR hT hC ht hcb hN hnb hgs hgr hp
    · exact add_grow_t w B L gs b _ size capR t (2 * size) (2 * size) _ bs rs r cnt par few many rf hn hBL hp0 hp1 (fun h => by omega) rfl hL hrow hR hT hC ht hcb hN hnb hgs hgr hp
/-- The lead of the places lo .. lo + len - 1. -/
def fold (rf : Bool) (n : Nat) (rs : Nat → R) (lo : Nat) : Nat → Option Nat
  | 0 => none
  | len + 1 => earl rf rs (fold rf n rs lo len) (leafS n rs (lo + len)).lead
theorem earl_none {rf : Bool} {rs : Nat → R} (a : Option Nat) : earl rf rs a none = a := by cases a <;> rfl
theorem fold_in {rf : Bool} {n : Nat} {rs : Nat → R} {lo : Nat} : ∀ len, In n (fold rf n rs lo len)
  | 0 => fun _ h => by simp [fold] at h
  | len + 1 => (fold_in len).earl (leafS_in n rs _).1
theorem earl_assoc {rf : Bool} {n : Nat} {rs : Nat → R} (hok : ∀ i, i < n → (rs i).ok) {a b c : Option Nat} (ha : In n a) (hb : In n b) (hc : In n c) : earl rf rs (earl rf rs a b) c = earl rf rs a (earl rf rs b c) := by
  rcases a with _ | i
  · rcases b with _ | j <;> rfl
  · rcases b with _ | j
    · rfl
    · rcases c with _ | k
      · rw [earl_none, earl_none]
      · have hi := hok i (ha i rfl)
        have hj := hok j (hb j rfl)
        have hk := hok k (hc k rfl)
        have e1 := bef_key rf (rs j) (rs i) hj hi
        have e2 := bef_key rf (rs k) (rs j) hk hj
        have e3 := bef_key rf (rs k) (rs i) hk hi
        simp only [earl, e1, e2, decide_eq_true_eq]
        by_cases h1 : key rf (rs j) < key rf (rs i)
        · by_cases h2 : key rf (rs k) < key rf (rs j)
          · simp only [h1, h2, if_true, e2, e3, decide_eq_true_eq]
            rw [if_pos (show key rf (rs k) < key rf (rs i) by omega)]
          · simp only [h1, h2, if_true, if_false, e1, e2, decide_eq_true_eq]
        · by_cases h2 : key rf (rs k) < key rf (rs j)
          · simp only [h1, h2, if_true, if_false, e3, decide_eq_true_eq]
          · simp only [h1, h2, if_false, e1, e3, decide_eq_true_eq]
            rw [if_neg (show ¬ key rf (rs k) < key rf (rs i) by omega)]
theorem fold_add {rf : Bool} {n : Nat} {rs : Nat → R} (hok : ∀ i, i < n → (rs i).ok) (lo a : Nat) : ∀ b, fold rf n rs lo (a + b) = earl rf rs (fold rf n rs lo a) (fold rf n rs (lo + a) b)
  | 0 => by rw [Nat.add_zero, fold, earl_none]
  | b + 1 => by
    rw [← Nat.add_assoc, fold, fold_add hok lo a b, earl_assoc hok (fold_in _) (fold_in _) (leafS_in n rs _).1, fold, Nat.add_assoc]
theorem tree_fold {rf : Bool} {n size : Nat} {rs : Nat → R} {sp : Nat → Sp} (h : Tree rf n size rs sp) (hok : ∀ i, i < n → (rs i).ok) : ∀ d k lo, 0 < k → k * 2 ^ d = size + lo → k * 2 ^ d + 2 ^ d ≤ 2 * size → (sp k).lead = fold rf n rs lo (2 ^ d)
  | 0, k, lo, h0, h1, h2 => by
    simp at h1 h2
    rw [h.1 k (by omega) (by omega), show k - size = lo by omega]
    simp [fold, earl]
  | d + 1, k, lo, h0, h1, h2 => by
    have hp : 0 < 2 ^ d := Nat.two_pow_pos d
    rw [Nat.pow_succ] at h1 h2 ⊢
    have e1 : 2 * k * 2 ^ d = k * (2 ^ d * 2) := by rw [Nat.mul_comm 2 k, Nat.mul_assoc, Nat.mul_comm 2]
    have e2 : (2 * k + 1) * 2 ^ d = 2 * k * 2 ^ d + 2 ^ d := by rw [Nat.add_mul, Nat.one_mul]
    have hks : k < size := by
      have : k ≤ k * 2 ^ d := Nat.le_mul_of_pos_right _ hp
      have e3 : k * (2 ^ d * 2) = 2 * (k * 2 ^ d) := by rw [← Nat.mul_assoc, Nat.mul_comm _ 2]
      omega
    rw [h.2 k h0 hks]
    have i1 := tree_fold h hok d (2 * k) lo (by omega) (by omega) (by omega)
    have i2 := tree_fold h hok d (2 * k + 1) (lo + 2 ^ d) (by omega) (by omega) (by omega)
    show earl rf rs (sp (2 * k)).lead (sp (2 * k + 1)).lead = _
    rw [i1, i2, show 2 ^ d * 2 = 2 ^ d + 2 ^ d by omega, fold_add hok]
theorem fold_past {rf : Bool} {n : Nat} {rs : Nat → R} : ∀ d, fold rf n rs 0 (n + d) = fold rf n rs 0 n
  | 0 => rfl
  | d + 1 => by
    rw [← Nat.add_assoc, fold, fold_past d]
    have : (leafS n rs (0 + (n + d))).lead = none := by unfold leafS; rw [if_neg (by omega)]
    rw [this, earl_none]
theorem tree_lead {rf : Bool} {n size ee : Nat} {rs : Nat → R} {sp : Nat → Sp} (h : Tree rf n size rs sp) (hok : ∀ i, i < n → (rs i).ok) (hee : size = 2 ^ ee) (hn : n ≤ size) : (sp 1).lead = fold rf n rs 0 n := by
  have := tree_fold h hok ee 1 0 (by omega) (by omega) (by omega)
  rw [this, ← hee, show size = n + (size - n) by omega, fold_past]
set_option maxHeartbeats 400000 in
theorem lead_any (w : World) (L gS m2 : Nat) (h : Hdr) (bs : Nat → Nat) (sp : Nat → Sp) (hL : LineAt w L h) (hs : h.spans = .slice (some ⟨gS, 0, none⟩) m2 m2) (hm : 2 ≤ m2) (hS : Spans w gS m2 bs sp) :
    Calls Yba.prog 11 #[.pointer (some ⟨L, 0, none⟩)] w fun e w' => e = .returned (.pointer (pp bs (sp 1).lead)) ∧ w' = w := by
  have c6 : w.cell? ⟨L, 6, none⟩ = some (.slice (some ⟨gS, 0, none⟩) m2 m2) := (hL.cell 6).trans (congrArg some hs)
  have c1 : w.cell? ⟨gS, 3, none⟩ = some (.pointer (pp bs (sp 1).lead)) := (hS.2.2 1 (by omega)).1
  have hmI : (1 : Int) < m2 := by omega
  clear hL hS
  go_enter Yba.func11, Yba.ntmps11
  go_wp2_with fail
  go_ret
  exact ⟨rfl, rfl⟩
set_option maxHeartbeats 400000 in
theorem outTo_any (w : World) (B L t : Nat) (h : Hdr) (cnt : Nat → Nat) (p : Nat) (hp : p ≤ 12) (hL : LineAt w L h) (hC : CountAt w B h.few h.many t cnt) :
    Calls Yba.prog 9 #[.pointer (some ⟨L, 0, none⟩), .string (nm p)] w fun e w' => e = .returned (.bool (decide (0 < cnt p))) ∧ Below w.heap.size w w' := by
  have HG := hide (get_any w B L h.few h.many t cnt p hp hC hL.ty.lt (hL.cell 4) (hL.cell 5))
  clear hL hC
  generalize hnm : nm p = b at *
  clear hnm
  go_enter Yba.func9, Yba.ntmps9
  go_wp2_with (first | (go_at_call 8; go_must (refine HG.out.mono ?_); rintro _ w1 ⟨rfl, hb1⟩))
  go_ret
  exact ⟨by simp, hb1⟩
end Go.Proofs.Ybulkcnwo
