import Derived.Test.YbulkcnuyLoop
namespace Go.Proofs.Ybulkcnuy
open Go.RowKit
set_option linter.unusedVariables false
set_option linter.unusedSimpArgs false

set_option maxHeartbeats 8000000 in
set_option maxRecDepth 1000000 in
theorem case0 {K : Act → World → Prop} {Q0 : Exit → Act → World → Prop} {body : Code} (hbody : (Yba.f3.body.bind firstLoop).getD .skip = body)
    {w wr : World} {c : Nat → Nat} {k len cap sb so : Nat} {u6 : Value} {its : List (Nat × Bool)} {o x b m d n : Int} {i0 : TypeInfo}
    {u8 u9 u10 u11 u12 u13 u14 u15 u16 u17 u18 u19 u20 u21 u22 u23 u24 u25 u26 u27 u28 u29 u30 u31 u32 u54 u55 u56 u57 u58 u59 u60 u61 u62 u63 u64 u65 u66 u67 u68 u69 u70 u71 u72 u73 u74 u75 u76 u77 u78 u79 u80 u81 u82 u83 u84 u85 u86 u87 u88 u89 u90 u91 u92 u93 u94 u95 u96 u97 u98 u99 u100 u101 u102 u103 u104 u105 u106 u107 u108 u109 u110 u111 u112 u113 u114 u115 u116 u117 u118 u119 u120 u121 u122 u123 u124 u125 u126 u127 u128 u129 u130 u131 u132 u133 u134 u135 u136 u137 u138 u139 u140 u141 u142 u143 u144 u145 u146 u147 u148 u149 u150 u151 u152 u153 u154 u155 u156 u157 u158 u159 u160 u161 u162 u163 u164 u165 u166 u167 u168 u169 u170 u171 u172 u173 u174 u175 u176 u177 u178 u179 u180 u181 u182 u183 u184 u185 u186 u187 u188 u189 u190 u191 u192 u193 u194 u195 u196 u197 u198 u199 u200 u201 u202 u203 u204 u205 u206 u207 u208 u209 u210 u211 u212 u213 u214 u215 u216 u217 u218 u219 u220 u221 u222 u223 u224 u225 u226 u227 u228 u229 u230 u231 u232 u233 u234 u235 u236 u237 u238 u239 u240 u241 u242 u243 u244 u245 u246 u247 u248 u249 u250 u251 u252 u253 u254 u255 u256 u257 u258 u259 u260 u261 u262 u263 u264 u265 u266 u267 u268 u269 u270 u271 u272 u273 u274 u275 u276 u277 u278 u279 u280 u281 u282 u283 u284 u285 u286 u287 u288 u289 u290 u291 u292 u293 u294 u295 u296 u297 u298 : Value}
    {f0 f1 f2 f3 f4 f7 f33 f34 f35 f36 f37 f38 f39 f40 f41 f42 f43 f44 f45 f46 f47 f48 f49 f50 f299 f300 f301 f302 f303 f304 f305 f306 f307 f308 f309 f310 f311 f312 : Value}
    (hi : Yba.prog.info? 38 = some i0) (hz0 : i0.zero = some (.agg #[.pointer none, .bool false])) (hz1 : i0.size = 2) (hz2 : i0.bytes = 16)
    (HC : Hid (∀ j, c j < 4)) (hl' : (len : Int) ≤ 512) (hk : k ≤ len) (hlt : k < len) (hkm : k + 1 ≤ 512) (hI : Inv w c k u6 its wr) (hsb' : sb < wr.heap.size)
    (o0 : 0 ≤ o) (o1 : o ≤ 255) (x0 : 0 ≤ x) (x1 : x ≤ 255) (b0 : 0 ≤ b) (b1 : b ≤ 255) (m0 : 0 ≤ m) (m1 : m ≤ 255) (d0 : 0 ≤ d) (d1 : d ≤ 255) (n0 : -2147483648 ≤ n) (n1 : n ≤ 2147483647)
    (p0 : wr.cell? ⟨sb, so + k * 6, none⟩ = some (.int .u8 o)) (p1 : wr.cell? ⟨sb, so + k * 6 + 1, none⟩ = some (.int .u8 x)) (p2 : wr.cell? ⟨sb, so + k * 6 + 2, none⟩ = some (.int .u8 b))
    (p3 : wr.cell? ⟨sb, so + k * 6 + 3, none⟩ = some (.int .u8 m)) (p4 : wr.cell? ⟨sb, so + k * 6 + 4, none⟩ = some (.int .u8 d)) (p5 : wr.cell? ⟨sb, so + k * 6 + 5, none⟩ = some (.int .i32 n))
    (ho : o % 5 = 0)
    (hK : ∀ {y8 y9 y10 y11 y12 y13 y14 y15 y16 y17 y18 y19 y20 y21 y22 y23 y24 y25 y26 y27 y28 y29 y30 y31 y32 y54 y55 y56 y57 y58 y59 y60 y61 y62 y63 y64 y65 y66 y67 y68 y69 y70 y71 y72 y73 y74 y75 y76 y77 y78 y79 y80 y81 y82 y83 y84 y85 y86 y87 y88 y89 y90 y91 y92 y93 y94 y95 y96 y97 y98 y99 y100 y101 y102 y103 y104 y105 y106 y107 y108 y109 y110 y111 y112 y113 y114 y115 y116 y117 y118 y119 y120 y121 y122 y123 y124 y125 y126 y127 y128 y129 y130 y131 y132 y133 y134 y135 y136 y137 y138 y139 y140 y141 y142 y143 y144 y145 y146 y147 y148 y149 y150 y151 y152 y153 y154 y155 y156 y157 y158 y159 y160 y161 y162 y163 y164 y165 y166 y167 y168 y169 y170 y171 y172 y173 y174 y175 y176 y177 y178 y179 y180 y181 y182 y183 y184 y185 y186 y187 y188 y189 y190 y191 y192 y193 y194 y195 y196 y197 y198 y199 y200 y201 y202 y203 y204 y205 y206 y207 y208 y209 y210 y211 y212 y213 y214 y215 y216 y217 y218 y219 y220 y221 y222 y223 y224 y225 y226 y227 y228 y229 y230 y231 y232 y233 y234 y235 y236 y237 y238 y239 y240 y241 y242 y243 y244 y245 y246 y247 y248 y249 y250 y251 y252 y253 y254 y255 y256 y257 y258 y259 y260 y261 y262 y263 y264 y265 y266 y267 y268 y269 y270 y271 y272 y273 y274 y275 y276 y277 y278 y279 y280 y281 y282 y283 y284 y285 y286 y287 y288 y289 y290 y291 y292 y293 y294 y295 y296 y297 y298 : Value} (v' : Value) (its' : List (Nat × Bool)) (w' : World), Inv w c (k + 1) v' its' w' → K ⟨List.toArray (f0 :: f1 :: f2 :: f3 :: f4 :: (.slice (some ⟨w.heap.size + 1, 0, none⟩) 3 3) :: v' :: f7 :: y8 :: y9 :: y10 :: y11 :: y12 :: y13 :: y14 :: y15 :: y16 :: y17 :: y18 :: y19 :: y20 :: y21 :: y22 :: y23 :: y24 :: y25 :: y26 :: y27 :: y28 :: y29 :: y30 :: y31 :: y32 :: f33 :: f34 :: f35 :: f36 :: f37 :: f38 :: f39 :: f40 :: f41 :: f42 :: f43 :: f44 :: f45 :: f46 :: f47 :: f48 :: f49 :: f50 :: (.slice (some ⟨sb, so, none⟩) len cap) :: (.int .i64 len) :: (.int .i64 ((k : Int) + 1)) :: y54 :: y55 :: y56 :: y57 :: y58 :: y59 :: y60 :: y61 :: y62 :: y63 :: y64 :: y65 :: y66 :: y67 :: y68 :: y69 :: y70 :: y71 :: y72 :: y73 :: y74 :: y75 :: y76 :: y77 :: y78 :: y79 :: y80 :: y81 :: y82 :: y83 :: y84 :: y85 :: y86 :: y87 :: y88 :: y89 :: y90 :: y91 :: y92 :: y93 :: y94 :: y95 :: y96 :: y97 :: y98 :: y99 :: y100 :: y101 :: y102 :: y103 :: y104 :: y105 :: y106 :: y107 :: y108 :: y109 :: y110 :: y111 :: y112 :: y113 :: y114 :: y115 :: y116 :: y117 :: y118 :: y119 :: y120 :: y121 :: y122 :: y123 :: y124 :: y125 :: y126 :: y127 :: y128 :: y129 :: y130 :: y131 :: y132 :: y133 :: y134 :: y135 :: y136 :: y137 :: y138 :: y139 :: y140 :: y141 :: y142 :: y143 :: y144 :: y145 :: y146 :: y147 :: y148 :: y149 :: y150 :: y151 :: y152 :: y153 :: y154 :: y155 :: y156 :: y157 :: y158 :: y159 :: y160 :: y161 :: y162 :: y163 :: y164 :: y165 :: y166 :: y167 :: y168 :: y169 :: y170 :: y171 :: y172 :: y173 :: y174 :: y175 :: y176 :: y177 :: y178 :: y179 :: y180 :: y181 :: y182 :: y183 :: y184 :: y185 :: y186 :: y187 :: y188 :: y189 :: y190 :: y191 :: y192 :: y193 :: y194 :: y195 :: y196 :: y197 :: y198 :: y199 :: y200 :: y201 :: y202 :: y203 :: y204 :: y205 :: y206 :: y207 :: y208 :: y209 :: y210 :: y211 :: y212 :: y213 :: y214 :: y215 :: y216 :: y217 :: y218 :: y219 :: y220 :: y221 :: y222 :: y223 :: y224 :: y225 :: y226 :: y227 :: y228 :: y229 :: y230 :: y231 :: y232 :: y233 :: y234 :: y235 :: y236 :: y237 :: y238 :: y239 :: y240 :: y241 :: y242 :: y243 :: y244 :: y245 :: y246 :: y247 :: y248 :: y249 :: y250 :: y251 :: y252 :: y253 :: y254 :: y255 :: y256 :: y257 :: y258 :: y259 :: y260 :: y261 :: y262 :: y263 :: y264 :: y265 :: y266 :: y267 :: y268 :: y269 :: y270 :: y271 :: y272 :: y273 :: y274 :: y275 :: y276 :: y277 :: y278 :: y279 :: y280 :: y281 :: y282 :: y283 :: y284 :: y285 :: y286 :: y287 :: y288 :: y289 :: y290 :: y291 :: y292 :: y293 :: y294 :: y295 :: y296 :: y297 :: y298 :: f299 :: f300 :: f301 :: f302 :: f303 :: f304 :: f305 :: f306 :: f307 :: f308 :: f309 :: f310 :: f311 :: f312 :: []), []⟩ w') :
    Code.wp Yba.prog body (Exit.then K Q0) ⟨List.toArray (f0 :: f1 :: f2 :: f3 :: f4 :: (.slice (some ⟨w.heap.size + 1, 0, none⟩) 3 3) :: u6 :: f7 :: u8 :: u9 :: u10 :: u11 :: u12 :: u13 :: u14 :: u15 :: u16 :: u17 :: u18 :: u19 :: u20 :: u21 :: u22 :: u23 :: u24 :: u25 :: u26 :: u27 :: u28 :: u29 :: u30 :: u31 :: u32 :: f33 :: f34 :: f35 :: f36 :: f37 :: f38 :: f39 :: f40 :: f41 :: f42 :: f43 :: f44 :: f45 :: f46 :: f47 :: f48 :: f49 :: f50 :: (.slice (some ⟨sb, so, none⟩) len cap) :: (.int .i64 len) :: (.int .i64 k) :: u54 :: u55 :: u56 :: u57 :: u58 :: u59 :: u60 :: u61 :: u62 :: u63 :: u64 :: u65 :: u66 :: u67 :: u68 :: u69 :: u70 :: u71 :: u72 :: u73 :: u74 :: u75 :: u76 :: u77 :: u78 :: u79 :: u80 :: u81 :: u82 :: u83 :: u84 :: u85 :: u86 :: u87 :: u88 :: u89 :: u90 :: u91 :: u92 :: u93 :: u94 :: u95 :: u96 :: u97 :: u98 :: u99 :: u100 :: u101 :: u102 :: u103 :: u104 :: u105 :: u106 :: u107 :: u108 :: u109 :: u110 :: u111 :: u112 :: u113 :: u114 :: u115 :: u116 :: u117 :: u118 :: u119 :: u120 :: u121 :: u122 :: u123 :: u124 :: u125 :: u126 :: u127 :: u128 :: u129 :: u130 :: u131 :: u132 :: u133 :: u134 :: u135 :: u136 :: u137 :: u138 :: u139 :: u140 :: u141 :: u142 :: u143 :: u144 :: u145 :: u146 :: u147 :: u148 :: u149 :: u150 :: u151 :: u152 :: u153 :: u154 :: u155 :: u156 :: u157 :: u158 :: u159 :: u160 :: u161 :: u162 :: u163 :: u164 :: u165 :: u166 :: u167 :: u168 :: u169 :: u170 :: u171 :: u172 :: u173 :: u174 :: u175 :: u176 :: u177 :: u178 :: u179 :: u180 :: u181 :: u182 :: u183 :: u184 :: u185 :: u186 :: u187 :: u188 :: u189 :: u190 :: u191 :: u192 :: u193 :: u194 :: u195 :: u196 :: u197 :: u198 :: u199 :: u200 :: u201 :: u202 :: u203 :: u204 :: u205 :: u206 :: u207 :: u208 :: u209 :: u210 :: u211 :: u212 :: u213 :: u214 :: u215 :: u216 :: u217 :: u218 :: u219 :: u220 :: u221 :: u222 :: u223 :: u224 :: u225 :: u226 :: u227 :: u228 :: u229 :: u230 :: u231 :: u232 :: u233 :: u234 :: u235 :: u236 :: u237 :: u238 :: u239 :: u240 :: u241 :: u242 :: u243 :: u244 :: u245 :: u246 :: u247 :: u248 :: u249 :: u250 :: u251 :: u252 :: u253 :: u254 :: u255 :: u256 :: u257 :: u258 :: u259 :: u260 :: u261 :: u262 :: u263 :: u264 :: u265 :: u266 :: u267 :: u268 :: u269 :: u270 :: u271 :: u272 :: u273 :: u274 :: u275 :: u276 :: u277 :: u278 :: u279 :: u280 :: u281 :: u282 :: u283 :: u284 :: u285 :: u286 :: u287 :: u288 :: u289 :: u290 :: u291 :: u292 :: u293 :: u294 :: u295 :: u296 :: u297 :: u298 :: f299 :: f300 :: f301 :: f302 :: f303 :: f304 :: f305 :: f306 :: f307 :: f308 :: f309 :: f310 :: f311 :: f312 :: []), []⟩ wr := by
  subst hbody
  conv => arg 2; whnf
  have HK := @hide _ @hK
  clear hK
  obtain ⟨h, hh⟩ : ∃ h : Nat, b % 3 = (h : Int) := ⟨(b % 3).toNat, by omega⟩
  have hh3 : h < 3 := by omega
  have hh3' : (h : Int) < 3 := by omega
  have t0 : w.heap.size + 1 < wr.heap.size := by have := hI.2.2.2.2.2; omega
  have t1 : w.heap.size + 1 < wr.heap.size + 1 := by omega
  have t2 : w.heap.size + 1 < wr.heap.size + 1 + 1 := by omega
  have t3 : w.heap.size + 1 < wr.heap.size + 1 + 1 + 1 := by omega
  have hcc := hI.2.2.2.1.cell hh3
  have hcl := HC.out h
  have hsz := hI.2.2.2.2.2
  generalize hch : c h = ch at hcc hcl
  have HH := hide hch
  have HI := hide hI
  have hmk : ∀ w, (Instr.makeSlice 28 (.int .i64 4) (.int .i64 4)).run Yba.prog w = .ok (.slice (some ⟨w.heap.size, 0, none⟩) 4 4) (w.alloc (.cells #[.bool false, .bool false, .bool false, .bool false] 4)) := fun _ => by kernel_rfl
  clear hch hI m0 m1 d0 d1 n0 n1
  have HHB := hide hh
  clear hh
  go_wp2_with fail
  rename World => W0
  have HO := hide ho
  clear ho
  go_loopw [10] (fun i w1 => ∃ j : Nat, j ≤ 4 ∧ i = .int .i64 j ∧ w1 = (W0.alloc (.cells #[.int .u8 o, .int .u8 x, .int .u8 b, .int .u8 m, .int .u8 d, .int .i32 n] 27)).alloc (.cells (hv x j) 4)) (fun i _ => 4 - (intOf i).toNat)
  case atStart => exact ⟨0, Nat.zero_le _, rfl, rfl⟩
  case round =>
    obtain ⟨j, hj, rfl, rfl⟩ := hrel
    match j, hj with
    | 0, _ =>
      rw [hv_0]
      go_wp2_with (go_at_call 5; refine (bit_any x _ 0 x0 x1 (by omega) (by omega) _).mono ?_; rintro e w' ⟨rfl, rfl⟩)
      go_roundw
      case rel => exact ⟨1, by omega, by go_num, by rw [hv_1]⟩
      case measure => simp [intOf]
    | 1, _ =>
      rw [hv_1]
      go_wp2_with (go_at_call 5; refine (bit_any x _ 1 x0 x1 (by omega) (by omega) _).mono ?_; rintro e w' ⟨rfl, rfl⟩)
      go_roundw
      case rel => exact ⟨2, by omega, by go_num, by rw [hv_2]⟩
      case measure => simp [intOf]
    | 2, _ =>
      rw [hv_2]
      go_wp2_with (go_at_call 5; refine (bit_any x _ 2 x0 x1 (by omega) (by omega) _).mono ?_; rintro e w' ⟨rfl, rfl⟩)
      go_roundw
      case rel => exact ⟨3, by omega, by go_num, by rw [hv_3]⟩
      case measure => simp [intOf]
    | 3, _ =>
      rw [hv_3]
      go_wp2_with (go_at_call 5; refine (bit_any x _ 3 x0 x1 (by omega) (by omega) _).mono ?_; rintro e w' ⟨rfl, rfl⟩)
      go_roundw
      case rel => exact ⟨4, by omega, by go_num, by rw [hv_4]⟩
      case measure => simp [intOf]
    | 4, _ =>
      rw [hv_4]
      have hh := HHB.out
      go_wp2_with fail
      clear hh
      have hA : (((W0.alloc (.cells #[.int .u8 o, .int .u8 x, .int .u8 b, .int .u8 m, .int .u8 d, .int .i32 n] 27)).alloc (.cells #[.bool (bitB x 0), .bool (bitB x 1), .bool (bitB x 2), .bool (bitB x 3)] 4)).drew).cell? ⟨W0.heap.size, 1, none⟩ = some (.int .u8 x) := by simp [go_sem]
      have hB0 : Below W0.heap.size W0 (((W0.alloc (.cells #[.int .u8 o, .int .u8 x, .int .u8 b, .int .u8 m, .int .u8 d, .int .i32 n] 27)).alloc (.cells #[.bool (bitB x 0), .bool (bitB x 1), .bool (bitB x 2), .bool (bitB x 3)] 4)).drew) := (((Below.refl _ _).alloc (Nat.le_refl _) _).alloc (by simp) _).drew
      have hcx := (hB0.cell (p := ⟨w.heap.size + 1, h, none⟩) (by show w.heap.size + 1 < _; omega)).trans hcc
      have HBB := hide hB0
      have hF : ∀ B : Bool, Blk ((((W0.alloc (.cells #[.int .u8 o, .int .u8 x, .int .u8 b, .int .u8 m, .int .u8 d, .int .i32 n] 27)).alloc (.cells #[.bool (bitB x 0), .bool (bitB x 1), .bool (bitB x 2), .bool (bitB x 3)] 4)).alloc (.cells #[.int .i64 0, .int .i64 h, .slice (some ⟨W0.heap.size + 1, 0, none⟩) 4 4, .slice none 0 0, .pointer none, .int .u8 0] 36)).alloc (.cells #[.pointer (some ⟨W0.heap.size + 1 + 1, 0, none⟩), .bool B] 38)).drew (W0.heap.size + 1 + 1 + 1) 38 #[.pointer (some ⟨W0.heap.size + 1 + 1, 0, none⟩), .bool B] := fun B => (Blk.new' (by simp))
      clear hB0
      have HBB2 : Hid (∀ B : Bool, Below W0.heap.size W0 ((((W0.alloc (.cells #[.int .u8 o, .int .u8 x, .int .u8 b, .int .u8 m, .int .u8 d, .int .i32 n] 27)).alloc (.cells #[.bool (bitB x 0), .bool (bitB x 1), .bool (bitB x 2), .bool (bitB x 3)] 4)).alloc (.cells #[.int .i64 0, .int .i64 h, .slice (some ⟨W0.heap.size + 1, 0, none⟩) 4 4, .slice none 0 0, .pointer none, .int .u8 0] 36)).alloc (.cells #[.pointer (some ⟨W0.heap.size + 1 + 1, 0, none⟩), .bool B] 38)).drew) := fun B => (((((Below.refl _ _).alloc (Nat.le_refl _) _).alloc (by simp) _).alloc (by simp; omega) _).alloc (by simp; omega) _).drew
      have HN1 : Hid (some W0.heap.size ≠ u6.ownBlock) := fun e => by have := (HI.out.2.1.lt _ e.symm).2; omega
      have HN2 : Hid (some (w.heap.size + 1) ≠ u6.ownBlock) := fun e => by have := (HI.out.2.1.lt _ e.symm).1; omega
      have hbd1 : its.length + 1 ≤ maxLen := by have := HI.out.1; unfold maxLen; omega
      have hbd2 : (its.length + 1) * 16 ≤ 140737488355328 := by have := HI.out.1; omega
      have hbd3 : w.heap.size + 2 ≤ ((((W0.alloc (.cells #[.int .u8 o, .int .u8 x, .int .u8 b, .int .u8 m, .int .u8 d, .int .i32 n] 27)).alloc (.cells #[.bool (bitB x 0), .bool (bitB x 1), .bool (bitB x 2), .bool (bitB x 3)] 4)).alloc (.cells #[.int .i64 0, .int .i64 h, .slice (some ⟨W0.heap.size + 1, 0, none⟩) 4 4, .slice none 0 0, .pointer none, .int .u8 0] 36)).alloc (.cells #[.pointer (some ⟨W0.heap.size + 1 + 1, 0, none⟩), .bool (bitB x ch)] 38)).drew.heap.size := by simp; omega
      go_region_held3 (fun w' => w'.cell? ⟨W0.heap.size, 1, none⟩ = some (.int .u8 x) ∧ w'.cell? ⟨w.heap.size + 1, h, none⟩ = some (.int .i32 ch))
        (first | exact ⟨hA, hcx⟩ | exact ⟨k1, k2⟩ | simp [go_sem, t0, t1, t2, t3, hcc])
        (first
          | (go_at_call 5; refine (bit_any x _ ch x0 x1 (i64w ch hcl) (by omega) _).mono ?_; rintro e w' ⟨rfl, rfl⟩)
          | (refine step_append_lies _ rfl (.tmp 192) (.tmp 206) 25 rfl (w.heap.size + 2) 38 i0 (.agg #[.pointer none, .bool false]) 2 16 Yba.underlying25 hi hz0 hz1 hz2 rfl (by decide) _ its.length (flat its) rfl (owns_below HI.out.2.1 (HBB2.out _)) ⟨W0.heap.size + 1 + 1 + 1, 0, none⟩ 1 1 [.pointer (some ⟨W0.heap.size + 1 + 1, 0, none⟩), .bool (bitB x ch)] rfl rfl (two_cells _ _ 38 _ _ (hF _)) (two_one _ _) (by decide) hbd1 hbd2 hbd3 _ rfl ?_; intro g vc w1 hown hgrow _ _; have k1 := hgrow.cell (a := ⟨W0.heap.size, 1, none⟩) (v := .int .u8 x) (by simp [go_sem]) HN1.out; have k2 := hgrow.cell (a := ⟨w.heap.size + 1, h, none⟩) (v := .int .i32 ch) (by simp [go_sem, t0, t1, t2, t3, hcc]) HN2.out))
      all_goals
        go_wp2_with fail
        refine HK.out _ (its ++ [(W0.heap.size + 1 + 1, bitB x ch)]) _ ((HI.out.below (HBB2.out _)).push ?_ hown hgrow)
        have hgd := good_atom (fb := W0.heap.size + 1 + 1) (hb := W0.heap.size + 1) (B := bitB x) (HI.out.2.2.2.1.kept (Kept.of_below (HBB2.out (bitB x ch)))) hh3 ((Blk.new' (by simp)).below ((Below.refl _ _).alloc (Nat.le_refl _) _).drew) ((Blk.new' (by simp)).below (((Below.refl _ _).alloc (Nat.le_refl _) _).alloc (by simp) _).drew)
        rw [HH.out] at hgd
        exact hgd
end Go.Proofs.Ybulkcnuy
