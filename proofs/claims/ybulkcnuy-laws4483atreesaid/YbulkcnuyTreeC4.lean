import Derived.Test.YbulkcnuyReg18
namespace Go.Proofs.Ybulkcnuy
open Go.RowKit
set_option linter.unusedVariables false
set_option linter.unusedSimpArgs false

set_option maxHeartbeats 8000000 in
set_option maxRecDepth 1000000 in
theorem case4 {K : Act → World → Prop} {Q0 : Exit → Act → World → Prop} {body : Code} (hbody : (Yba.f3.body.bind firstLoop).getD .skip = body)
    {w wr : World} {c : Nat → Nat} {k len cap sb so : Nat} {u6 : Value} {its : List (Nat × Bool)} {o x b m d n : Int} {i0 : TypeInfo}
    {u8 u9 u10 u11 u12 u13 u14 u15 u16 u17 u18 u19 u20 u21 u22 u23 u24 u25 u26 u27 u28 u29 u30 u31 u32 u54 u55 u56 u57 u58 u59 u60 u61 u62 u63 u64 u65 u66 u67 u68 u69 u70 u71 u72 u73 u74 u75 u76 u77 u78 u79 u80 u81 u82 u83 u84 u85 u86 u87 u88 u89 u90 u91 u92 u93 u94 u95 u96 u97 u98 u99 u100 u101 u102 u103 u104 u105 u106 u107 u108 u109 u110 u111 u112 u113 u114 u115 u116 u117 u118 u119 u120 u121 u122 u123 u124 u125 u126 u127 u128 u129 u130 u131 u132 u133 u134 u135 u136 u137 u138 u139 u140 u141 u142 u143 u144 u145 u146 u147 u148 u149 u150 u151 u152 u153 u154 u155 u156 u157 u158 u159 u160 u161 u162 u163 u164 u165 u166 u167 u168 u169 u170 u171 u172 u173 u174 u175 u176 u177 u178 u179 u180 u181 u182 u183 u184 u185 u186 u187 u188 u189 u190 u191 u192 u193 u194 u195 u196 u197 u198 u199 u200 u201 u202 u203 u204 u205 u206 u207 u208 u209 u210 u211 u212 u213 u214 u215 u216 u217 u218 u219 u220 u221 u222 u223 u224 u225 u226 u227 u228 u229 u230 u231 u232 u233 u234 u235 u236 u237 u238 u239 u240 u241 u242 u243 u244 u245 u246 u247 u248 u249 u250 u251 u252 u253 u254 u255 u256 u257 u258 u259 u260 u261 u262 u263 u264 u265 u266 u267 u268 u269 u270 u271 u272 u273 u274 u275 u276 u277 u278 u279 u280 u281 u282 u283 u284 u285 u286 u287 u288 u289 u290 u291 u292 u293 u294 u295 u296 u297 u298 : Value}
    {f0 f1 f2 f3 f4 f7 f33 f34 f35 f36 f37 f38 f39 f40 f41 f42 f43 f44 f45 f46 f47 f48 f49 f50 f299 f300 f301 f302 f303 f304 f305 f306 f307 f308 f309 f310 f311 f312 : Value}
    (hi : Yba.prog.info? 38 = some i0) (hz0 : i0.zero = some (.agg #[.pointer none, .bool false])) (hz1 : i0.size = 2) (hz2 : i0.bytes = 16)
    (HC : Hid (∀ j, c j < 4)) (hl' : (len : Int) ≤ 512) (hk : k ≤ len) (hlt : k < len) (hkm : k + 1 ≤ 512) (hI : Inv w c k u6 its wr) (hsb' : sb < wr.heap.size)
    (o0 : 0 ≤ o) (o1 : o ≤ 255) (x0 : 0 ≤ x) (x1 : x ≤ 255) (b0 : 0 ≤ b) (b1 : b ≤ 255) (m0 : 0 ≤ m) (m1 : m ≤ 255) (d0 : 0 ≤ d) (d1 : d ≤ 255) (n0 : -2147483648 ≤ n) (n1 : n ≤ 2147483647)
    (p0 : wr.cell? ⟨sb, so + k * 6, none⟩ = some (.int .u8 o)) (p1 : wr.cell? ⟨sb, so + k * 6 + 1, none⟩ = some (.int .u8 x)) (p2 : wr.cell? ⟨sb, so + k * 6 + 2, none⟩ = some (.int .u8 b))
    (p3 : wr.cell? ⟨sb, so + k * 6 + 3, none⟩ = some (.int .u8 m)) (p4 : wr.cell? ⟨sb, so + k * 6 + 4, none⟩ = some (.int .u8 d)) (p5 : wr.cell? ⟨sb, so + k * 6 + 5, none⟩ = some (.int .i32 n))
    (ho : o % 5 = 4)
    (hK : ∀ {y8 y9 y10 y11 y12 y13 y14 y15 y16 y17 y18 y19 y20 y21 y22 y23 y24 y25 y26 y27 y28 y29 y30 y31 y32 y54 y55 y56 y57 y58 y59 y60 y61 y62 y63 y64 y65 y66 y67 y68 y69 y70 y71 y72 y73 y74 y75 y76 y77 y78 y79 y80 y81 y82 y83 y84 y85 y86 y87 y88 y89 y90 y91 y92 y93 y94 y95 y96 y97 y98 y99 y100 y101 y102 y103 y104 y105 y106 y107 y108 y109 y110 y111 y112 y113 y114 y115 y116 y117 y118 y119 y120 y121 y122 y123 y124 y125 y126 y127 y128 y129 y130 y131 y132 y133 y134 y135 y136 y137 y138 y139 y140 y141 y142 y143 y144 y145 y146 y147 y148 y149 y150 y151 y152 y153 y154 y155 y156 y157 y158 y159 y160 y161 y162 y163 y164 y165 y166 y167 y168 y169 y170 y171 y172 y173 y174 y175 y176 y177 y178 y179 y180 y181 y182 y183 y184 y185 y186 y187 y188 y189 y190 y191 y192 y193 y194 y195 y196 y197 y198 y199 y200 y201 y202 y203 y204 y205 y206 y207 y208 y209 y210 y211 y212 y213 y214 y215 y216 y217 y218 y219 y220 y221 y222 y223 y224 y225 y226 y227 y228 y229 y230 y231 y232 y233 y234 y235 y236 y237 y238 y239 y240 y241 y242 y243 y244 y245 y246 y247 y248 y249 y250 y251 y252 y253 y254 y255 y256 y257 y258 y259 y260 y261 y262 y263 y264 y265 y266 y267 y268 y269 y270 y271 y272 y273 y274 y275 y276 y277 y278 y279 y280 y281 y282 y283 y284 y285 y286 y287 y288 y289 y290 y291 y292 y293 y294 y295 y296 y297 y298 : Value} (v' : Value) (its' : List (Nat × Bool)) (w' : World), Inv w c (k + 1) v' its' w' → K ⟨List.toArray (f0 :: f1 :: f2 :: f3 :: f4 :: (.slice (some ⟨w.heap.size + 1, 0, none⟩) 3 3) :: v' :: f7 :: y8 :: y9 :: y10 :: y11 :: y12 :: y13 :: y14 :: y15 :: y16 :: y17 :: y18 :: y19 :: y20 :: y21 :: y22 :: y23 :: y24 :: y25 :: y26 :: y27 :: y28 :: y29 :: y30 :: y31 :: y32 :: f33 :: f34 :: f35 :: f36 :: f37 :: f38 :: f39 :: f40 :: f41 :: f42 :: f43 :: f44 :: f45 :: f46 :: f47 :: f48 :: f49 :: f50 :: (.slice (some ⟨sb, so, none⟩) len cap) :: (.int .i64 len) :: (.int .i64 ((k : Int) + 1)) :: y54 :: y55 :: y56 :: y57 :: y58 :: y59 :: y60 :: y61 :: y62 :: y63 :: y64 :: y65 :: y66 :: y67 :: y68 :: y69 :: y70 :: y71 :: y72 :: y73 :: y74 :: y75 :: y76 :: y77 :: y78 :: y79 :: y80 :: y81 :: y82 :: y83 :: y84 :: y85 :: y86 :: y87 :: y88 :: y89 :: y90 :: y91 :: y92 :: y93 :: y94 :: y95 :: y96 :: y97 :: y98 :: y99 :: y100 :: y101 :: y102 :: y103 :: y104 :: y105 :: y106 :: y107 :: y108 :: y109 :: y110 :: y111 :: y112 :: y113 :: y114 :: y115 :: y116 :: y117 :: y118 :: y119 :: y120 :: y121 :: y122 :: y123 :: y124 :: y125 :: y126 :: y127 :: y128 :: y129 :: y130 :: y131 :: y132 :: y133 :: y134 :: y135 :: y136 :: y137 :: y138 :: y139 :: y140 :: y141 :: y142 :: y143 :: y144 :: y145 :: y146 :: y147 :: y148 :: y149 :: y150 :: y151 :: y152 :: y153 :: y154 :: y155 :: y156 :: y157 :: y158 :: y159 :: y160 :: y161 :: y162 :: y163 :: y164 :: y165 :: y166 :: y167 :: y168 :: y169 :: y170 :: y171 :: y172 :: y173 :: y174 :: y175 :: y176 :: y177 :: y178 :: y179 :: y180 :: y181 :: y182 :: y183 :: y184 :: y185 :: y186 :: y187 :: y188 :: y189 :: y190 :: y191 :: y192 :: y193 :: y194 :: y195 :: y196 :: y197 :: y198 :: y199 :: y200 :: y201 :: y202 :: y203 :: y204 :: y205 :: y206 :: y207 :: y208 :: y209 :: y210 :: y211 :: y212 :: y213 :: y214 :: y215 :: y216 :: y217 :: y218 :: y219 :: y220 :: y221 :: y222 :: y223 :: y224 :: y225 :: y226 :: y227 :: y228 :: y229 :: y230 :: y231 :: y232 :: y233 :: y234 :: y235 :: y236 :: y237 :: y238 :: y239 :: y240 :: y241 :: y242 :: y243 :: y244 :: y245 :: y246 :: y247 :: y248 :: y249 :: y250 :: y251 :: y252 :: y253 :: y254 :: y255 :: y256 :: y257 :: y258 :: y259 :: y260 :: y261 :: y262 :: y263 :: y264 :: y265 :: y266 :: y267 :: y268 :: y269 :: y270 :: y271 :: y272 :: y273 :: y274 :: y275 :: y276 :: y277 :: y278 :: y279 :: y280 :: y281 :: y282 :: y283 :: y284 :: y285 :: y286 :: y287 :: y288 :: y289 :: y290 :: y291 :: y292 :: y293 :: y294 :: y295 :: y296 :: y297 :: y298 :: f299 :: f300 :: f301 :: f302 :: f303 :: f304 :: f305 :: f306 :: f307 :: f308 :: f309 :: f310 :: f311 :: f312 :: []), []⟩ w') :
    Code.wp Yba.prog body (Exit.then K Q0) ⟨List.toArray (f0 :: f1 :: f2 :: f3 :: f4 :: (.slice (some ⟨w.heap.size + 1, 0, none⟩) 3 3) :: u6 :: f7 :: u8 :: u9 :: u10 :: u11 :: u12 :: u13 :: u14 :: u15 :: u16 :: u17 :: u18 :: u19 :: u20 :: u21 :: u22 :: u23 :: u24 :: u25 :: u26 :: u27 :: u28 :: u29 :: u30 :: u31 :: u32 :: f33 :: f34 :: f35 :: f36 :: f37 :: f38 :: f39 :: f40 :: f41 :: f42 :: f43 :: f44 :: f45 :: f46 :: f47 :: f48 :: f49 :: f50 :: (.slice (some ⟨sb, so, none⟩) len cap) :: (.int .i64 len) :: (.int .i64 k) :: u54 :: u55 :: u56 :: u57 :: u58 :: u59 :: u60 :: u61 :: u62 :: u63 :: u64 :: u65 :: u66 :: u67 :: u68 :: u69 :: u70 :: u71 :: u72 :: u73 :: u74 :: u75 :: u76 :: u77 :: u78 :: u79 :: u80 :: u81 :: u82 :: u83 :: u84 :: u85 :: u86 :: u87 :: u88 :: u89 :: u90 :: u91 :: u92 :: u93 :: u94 :: u95 :: u96 :: u97 :: u98 :: u99 :: u100 :: u101 :: u102 :: u103 :: u104 :: u105 :: u106 :: u107 :: u108 :: u109 :: u110 :: u111 :: u112 :: u113 :: u114 :: u115 :: u116 :: u117 :: u118 :: u119 :: u120 :: u121 :: u122 :: u123 :: u124 :: u125 :: u126 :: u127 :: u128 :: u129 :: u130 :: u131 :: u132 :: u133 :: u134 :: u135 :: u136 :: u137 :: u138 :: u139 :: u140 :: u141 :: u142 :: u143 :: u144 :: u145 :: u146 :: u147 :: u148 :: u149 :: u150 :: u151 :: u152 :: u153 :: u154 :: u155 :: u156 :: u157 :: u158 :: u159 :: u160 :: u161 :: u162 :: u163 :: u164 :: u165 :: u166 :: u167 :: u168 :: u169 :: u170 :: u171 :: u172 :: u173 :: u174 :: u175 :: u176 :: u177 :: u178 :: u179 :: u180 :: u181 :: u182 :: u183 :: u184 :: u185 :: u186 :: u187 :: u188 :: u189 :: u190 :: u191 :: u192 :: u193 :: u194 :: u195 :: u196 :: u197 :: u198 :: u199 :: u200 :: u201 :: u202 :: u203 :: u204 :: u205 :: u206 :: u207 :: u208 :: u209 :: u210 :: u211 :: u212 :: u213 :: u214 :: u215 :: u216 :: u217 :: u218 :: u219 :: u220 :: u221 :: u222 :: u223 :: u224 :: u225 :: u226 :: u227 :: u228 :: u229 :: u230 :: u231 :: u232 :: u233 :: u234 :: u235 :: u236 :: u237 :: u238 :: u239 :: u240 :: u241 :: u242 :: u243 :: u244 :: u245 :: u246 :: u247 :: u248 :: u249 :: u250 :: u251 :: u252 :: u253 :: u254 :: u255 :: u256 :: u257 :: u258 :: u259 :: u260 :: u261 :: u262 :: u263 :: u264 :: u265 :: u266 :: u267 :: u268 :: u269 :: u270 :: u271 :: u272 :: u273 :: u274 :: u275 :: u276 :: u277 :: u278 :: u279 :: u280 :: u281 :: u282 :: u283 :: u284 :: u285 :: u286 :: u287 :: u288 :: u289 :: u290 :: u291 :: u292 :: u293 :: u294 :: u295 :: u296 :: u297 :: u298 :: f299 :: f300 :: f301 :: f302 :: f303 :: f304 :: f305 :: f306 :: f307 :: f308 :: f309 :: f310 :: f311 :: f312 :: []), []⟩ wr := by
  subst hbody
  conv => arg 2; whnf
  have HK := @hide _ @hK
  clear hK
  obtain ⟨h1, hh1⟩ : ∃ h : Nat, b % 3 = (h : Int) := ⟨(b % 3).toNat, by omega⟩
  obtain ⟨h2, hh2⟩ : ∃ h : Nat, b / 8 % 3 = (h : Int) := ⟨(b / 8 % 3).toNat, by omega⟩
  have l1 : h1 < 3 := by omega
  have l2 : h2 < 3 := by omega
  have HI := hide hI
  have hc1 := hI.2.2.2.1.cell l1
  have hc2 := hI.2.2.2.1.cell l2
  have hcl1 := HC.out h1
  have hcl2 := HC.out h2
  generalize hch1 : c h1 = ch1 at hc1 hcl1
  generalize hch2 : c h2 = ch2 at hc2 hcl2
  have HCH1 := hide hch1
  have HCH2 := hide hch2
  clear hch1 hch2
  have hsz := hI.2.2.2.2.2
  clear hI
  go_wp2_with fail
  refine (bit_any b _ 2 b0 b1 (by rfl) (by omega) _).mono ?_
  rintro e w' ⟨rfl, rfl⟩
  go_wp2_with fail
  refine (bit_any b _ 5 b0 b1 (by rfl) (by omega) _).mono ?_
  rintro e w' ⟨rfl, rfl⟩
  generalize bitB b 2 = mb1
  generalize bitB b 5 = mb2
  go_wp2_with fail
  have hbr : -3 ≤ wrap64 (-wrap64 (bits BinOp.and IntKind.u8 (x / 16) 3)) ∧ wrap64 (-wrap64 (bits BinOp.and IntKind.u8 (x / 16) 3)) ≤ 0 := by
    have h := base_rng x.toNat (by omega)
    rw [show ((x.toNat : Nat) : Int) = x by omega] at h
    exact h
  generalize wrap64 (-wrap64 (bits BinOp.and IntKind.u8 (x / 16) 3)) = bb at hbr ⊢
  refine (reading_at h1 bb 1 d 0 mb1 0 (by rfl) _ (by omega) hbr.1 hbr.2 (by omega) (by omega) d0 d1).mono ?_
  rintro e w1 ⟨rfl, hv1, hb1⟩
  simp only [World.size_alloc] at hv1 hb1
  have hw1 : wr.heap.size + 1 + 1 < w1.heap.size := hv1.lt
  have hB1 : Below wr.heap.size wr w1 := ((Below.refl _ _).alloc (Nat.le_refl _) _).trans (hb1.mono (by omega))
  have s0 := (hb1.cell (p := ⟨wr.heap.size, 0, none⟩) (by show wr.heap.size < _; omega)).trans (show _ = some (Value.int .u8 o) by simp [go_sem])
  have s1 := (hb1.cell (p := ⟨wr.heap.size, 1, none⟩) (by show wr.heap.size < _; omega)).trans (show _ = some (Value.int .u8 x) by simp [go_sem])
  have s2 := (hb1.cell (p := ⟨wr.heap.size, 2, none⟩) (by show wr.heap.size < _; omega)).trans (show _ = some (Value.int .u8 b) by simp [go_sem])
  have s3 := (hb1.cell (p := ⟨wr.heap.size, 3, none⟩) (by show wr.heap.size < _; omega)).trans (show _ = some (Value.int .u8 m) by simp [go_sem])
  have s4 := (hb1.cell (p := ⟨wr.heap.size, 4, none⟩) (by show wr.heap.size < _; omega)).trans (show _ = some (Value.int .u8 d) by simp [go_sem])
  have s5 := (hb1.cell (p := ⟨wr.heap.size, 5, none⟩) (by show wr.heap.size < _; omega)).trans (show _ = some (Value.int .i32 n) by simp [go_sem])
  have q1 : wr.heap.size < w1.heap.size := by omega
  have q2 : wr.heap.size < w1.heap.size + 1 := by omega
  have HV1 := hide hv1
  have HB1 := hide hB1
  clear hv1 hB1 hb1
  go_wp2_with fail
  have hsr : 0 ≤ wrap64 (bits BinOp.and IntKind.u8 (x / 64) 3) ∧ wrap64 (bits BinOp.and IntKind.u8 (x / 64) 3) ≤ 3 := by
    have h := step_rng x.toNat (by omega)
    rw [show ((x.toNat : Nat) : Int) = x by omega] at h
    exact h
  generalize wrap64 (bits BinOp.and IntKind.u8 (x / 64) 3) = ss at hsr ⊢
  refine (reading_at h2 0 ss d 4 mb2 4 (by rfl) _ (by omega) (by omega) (by omega) hsr.1 hsr.2 d0 d1).mono ?_
  rintro e w2 ⟨rfl, hv2, hb2⟩
  simp only [World.size_alloc] at hv2 hb2
  have hw2 : w1.heap.size + 1 + 1 < w2.heap.size := hv2.lt
  have hB2 : Below w1.heap.size w1 w2 := ((Below.refl _ _).alloc (Nat.le_refl _) _).trans (hb2.mono (by omega))
  have g0 := (hb2.cell (p := ⟨w1.heap.size, 0, none⟩) (by show w1.heap.size < _; omega)).trans (show _ = some (Value.int .i64 h1) by simp [go_sem])
  have g1 := (hb2.cell (p := ⟨w1.heap.size, 1, none⟩) (by show w1.heap.size < _; omega)).trans (show _ = some (Value.slice (some ⟨wr.heap.size + 1 + 1, 0, none⟩) 4 4) by simp [go_sem])
  have g2 := (hb2.cell (p := ⟨w1.heap.size, 2, none⟩) (by show w1.heap.size < _; omega)).trans (show _ = some (Value.bool mb1) by simp [go_sem])
  have z0 := (hB2.cell (p := ⟨wr.heap.size, 0, none⟩) q1).trans s0
  have z1 := (hB2.cell (p := ⟨wr.heap.size, 1, none⟩) q1).trans s1
  have z2 := (hB2.cell (p := ⟨wr.heap.size, 2, none⟩) q1).trans s2
  have z3 := (hB2.cell (p := ⟨wr.heap.size, 3, none⟩) q1).trans s3
  have z4 := (hB2.cell (p := ⟨wr.heap.size, 4, none⟩) q1).trans s4
  have z5 := (hB2.cell (p := ⟨wr.heap.size, 5, none⟩) q1).trans s5
  have hB02 : Below wr.heap.size wr w2 := HB1.out.trans (hB2.mono (by omega))
  have c1 := (hB02.cell (p := ⟨w.heap.size + 1, h1, none⟩) (by show w.heap.size + 1 < _; omega)).trans hc1
  have c2 := (hB02.cell (p := ⟨w.heap.size + 1, h2, none⟩) (by show w.heap.size + 1 < _; omega)).trans hc2
  have hV1 : Blk w2 (wr.heap.size + 1 + 1) 51 (rv bb 1 d 0 4) := HV1.out.below hB2
  have e1 := (hV1.cell (ch1 * 2)).trans (rv_num bb 1 d 0 (ch1) hcl1)
  have e2 := (hV1.cell (ch1 * 2 + 1)).trans (rv_def bb 1 d 0 (ch1) hcl1)
  have e3 := (hv2.cell (ch2 * 2)).trans (rv_num 0 ss d 4 (ch2) hcl2)
  have e4 := (hv2.cell (ch2 * 2 + 1)).trans (rv_def 0 ss d 4 (ch2) hcl2)
  have r1 : -3 ≤ bb + (ch1 : Int) * 1 ∧ bb + (ch1 : Int) * 1 ≤ 3 := by omega
  have r2 : -9 ≤ (0 : Int) + (ch2 : Int) * ss ∧ (0 : Int) + (ch2 : Int) * ss ≤ 9 := by
    match ch2, hcl2 with
    | 0, _ => omega
    | 1, _ => omega
    | 2, _ => omega
    | 3, _ => omega
  have HT1 : Hid ((rv bb 1 d 0 4)[ch1 * 2]? = some (.int .i64 (bb + (ch1 : Int) * 1)) ∧ (rv bb 1 d 0 4)[ch1 * 2 + 1]? = some (.bool (bitB d (0 + ch1)))) := ⟨rv_num bb 1 d 0 (ch1) hcl1, rv_def bb 1 d 0 (ch1) hcl1⟩
  have HT2 : Hid ((rv 0 ss d 4 4)[ch2 * 2]? = some (.int .i64 (0 + (ch2 : Int) * ss)) ∧ (rv 0 ss d 4 4)[ch2 * 2 + 1]? = some (.bool (bitB d (4 + ch2)))) := ⟨rv_num 0 ss d 4 (ch2) hcl2, rv_def 0 ss d 4 (ch2) hcl2⟩
  generalize bb + (ch1 : Int) * 1 = n1' at e1 r1 HT1
  generalize (0 : Int) + (ch2 : Int) * ss = n2' at e3 r2 HT2
  generalize bitB d (0 + ch1) = df1 at e2 HT1
  generalize bitB d (4 + ch2) = df2 at e4 HT2
  obtain ⟨r1a, r1b⟩ := r1
  obtain ⟨r2a, r2b⟩ := r2
  have HV1' := hide hV1
  have HV2' := hide hv2
  have HB02 := hide hB02
  have HB2 := hide hB2
  clear hV1 hv2 hB02 hB2 hb2 s0 s1 s2 s3 s4 s5 hc1 hc2 q1 q2 p0 p1 p2 p3 p4 p5
  have HH1 := hide hh1
  have HH2 := hide hh2
  have HO := hide ho
  clear hh1 hh2 ho
  have a1 : wr.heap.size < w2.heap.size := by omega
  have a2 : wr.heap.size < w2.heap.size + 1 := by omega
  have a3 : w1.heap.size < w2.heap.size := by omega
  go_upto_region 17 with fail
  have hBW : Below w2.heap.size w2 (((w2.alloc (.cells #[.int .i64 h2, .slice (some ⟨w1.heap.size + 1 + 1, 0, none⟩) 4 4, .bool mb2] 42)).alloc (.cells #[.int .i64 h1, .slice (some ⟨wr.heap.size + 1 + 1, 0, none⟩) 4 4, .bool mb1, .int .i64 h2, .slice (some ⟨w1.heap.size + 1 + 1, 0, none⟩) 4 4, .bool mb2] 42)).alloc (.cells #[.int .i64 (n / 9223372036854775808), .int .u64 (IntKind.u64.wrap n), .slice (some ⟨w2.heap.size + 1, 0, none⟩) 2 2] 49)) := (((Below.refl _ _).alloc (Nat.le_refl _) _).alloc (by simp) _).alloc (by simp; omega) _
  have hDD : Blk (((w2.alloc (.cells #[.int .i64 h2, .slice (some ⟨w1.heap.size + 1 + 1, 0, none⟩) 4 4, .bool mb2] 42)).alloc (.cells #[.int .i64 h1, .slice (some ⟨wr.heap.size + 1 + 1, 0, none⟩) 4 4, .bool mb1, .int .i64 h2, .slice (some ⟨w1.heap.size + 1 + 1, 0, none⟩) 4 4, .bool mb2] 42)).alloc (.cells #[.int .i64 (n / 9223372036854775808), .int .u64 (IntKind.u64.wrap n), .slice (some ⟨w2.heap.size + 1, 0, none⟩) 2 2] 49)) (w2.heap.size + 1 + 1) 49 #[.int .i64 (n / 9223372036854775808), .int .u64 (IntKind.u64.wrap n), .slice (some ⟨w2.heap.size + 1, 0, none⟩) 2 2] := Blk.new' (by simp)
  have hTT : Blk (((w2.alloc (.cells #[.int .i64 h2, .slice (some ⟨w1.heap.size + 1 + 1, 0, none⟩) 4 4, .bool mb2] 42)).alloc (.cells #[.int .i64 h1, .slice (some ⟨wr.heap.size + 1 + 1, 0, none⟩) 4 4, .bool mb1, .int .i64 h2, .slice (some ⟨w1.heap.size + 1 + 1, 0, none⟩) 4 4, .bool mb2] 42)).alloc (.cells #[.int .i64 (n / 9223372036854775808), .int .u64 (IntKind.u64.wrap n), .slice (some ⟨w2.heap.size + 1, 0, none⟩) 2 2] 49)) (w2.heap.size + 1) 42 #[.int .i64 h1, .slice (some ⟨wr.heap.size + 1 + 1, 0, none⟩) 4 4, .bool mb1, .int .i64 h2, .slice (some ⟨w1.heap.size + 1 + 1, 0, none⟩) 4 4, .bool mb2] := (Blk.new' (by simp)).below ((Below.refl _ _).alloc (Nat.le_refl _) _)
  have hRR : Blk (((w2.alloc (.cells #[.int .i64 h2, .slice (some ⟨w1.heap.size + 1 + 1, 0, none⟩) 4 4, .bool mb2] 42)).alloc (.cells #[.int .i64 h1, .slice (some ⟨wr.heap.size + 1 + 1, 0, none⟩) 4 4, .bool mb1, .int .i64 h2, .slice (some ⟨w1.heap.size + 1 + 1, 0, none⟩) 4 4, .bool mb2] 42)).alloc (.cells #[.int .i64 (n / 9223372036854775808), .int .u64 (IntKind.u64.wrap n), .slice (some ⟨w2.heap.size + 1, 0, none⟩) 2 2] 49)) w2.heap.size 42 #[.int .i64 h2, .slice (some ⟨w1.heap.size + 1 + 1, 0, none⟩) 4 4, .bool mb2] := (Blk.new' rfl).below (((Below.refl _ _).alloc (Nat.le_refl _) _).alloc (by simp) _)
  generalize ((w2.alloc (.cells #[.int .i64 h2, .slice (some ⟨w1.heap.size + 1 + 1, 0, none⟩) 4 4, .bool mb2] 42)).alloc (.cells #[.int .i64 h1, .slice (some ⟨wr.heap.size + 1 + 1, 0, none⟩) 4 4, .bool mb1, .int .i64 h2, .slice (some ⟨w1.heap.size + 1 + 1, 0, none⟩) 4 4, .bool mb2] 42)).alloc (.cells #[.int .i64 (n / 9223372036854775808), .int .u64 (IntKind.u64.wrap n), .slice (some ⟨w2.heap.size + 1, 0, none⟩) 2 2] 49) = W3 at hBW hDD hTT hRR ⊢
  as_aux_lemma =>
    have k1 := (hBW.cell (p := ⟨w1.heap.size, 1, none⟩) a3).trans g1
    have k2 : W3.cell? ⟨w2.heap.size, 1, none⟩ = some (.slice (some ⟨w1.heap.size + 1 + 1, 0, none⟩) 4 4) := hRR.cell 1
    have k3 := (hBW.cell (p := ⟨w.heap.size + 1, h1, none⟩) (by show w.heap.size + 1 < _; omega)).trans c1
    have k4 := (hBW.cell (p := ⟨w.heap.size + 1, h2, none⟩) (by show w.heap.size + 1 < _; omega)).trans c2
    have k5 := (hBW.cell (p := ⟨wr.heap.size + 1 + 1, ch1 * 2, none⟩) (by show wr.heap.size + 1 + 1 < _; omega)).trans e1
    have k6 := (hBW.cell (p := ⟨wr.heap.size + 1 + 1, ch1 * 2 + 1, none⟩) (by show wr.heap.size + 1 + 1 < _; omega)).trans e2
    have k7 := (hBW.cell (p := ⟨w1.heap.size + 1 + 1, ch2 * 2, none⟩) (by show w1.heap.size + 1 + 1 < _; omega)).trans e3
    have k8 := (hBW.cell (p := ⟨w1.heap.size + 1 + 1, ch2 * 2 + 1, none⟩) (by show w1.heap.size + 1 + 1 < _; omega)).trans e4
    have k9 := (hBW.cell (p := ⟨wr.heap.size, 3, none⟩) a1).trans z3
    have hs3 := hBW.size
    have b1' : w1.heap.size < W3.heap.size := by omega
    have b2' : w2.heap.size < W3.heap.size := hRR.lt
    have b3' : w.heap.size + 1 < W3.heap.size := by omega
    have b4' : wr.heap.size + 1 + 1 < W3.heap.size := by omega
    have b5' : w1.heap.size + 1 + 1 < W3.heap.size := by omega
    have b6' : wr.heap.size < W3.heap.size := by omega
    have b7' : wr.heap.size < W3.heap.size + 1 := by omega
    have v1' : w2.heap.size < W3.heap.size + 1 := by omega
    have v3' : w.heap.size + 1 < W3.heap.size + 1 := by omega
    have v5' : w1.heap.size + 1 + 1 < W3.heap.size + 1 := by omega
    have HBW := hide hBW
    have HDD := hide hDD
    have HTT := hide hTT
    clear hBW hDD hTT hRR g0 g1 g2 z0 z1 z2 z3 z4 z5 c1 c2 e1 e2 e3 e4 a1 a2 a3 hs3 hw1 hw2
    have hb1' : (h1 : Int) < 3 := by omega
    have hb2' : (h2 : Int) < 3 := by omega
    have hb3' : (ch1 : Int) < 4 := by omega
    have hb4' : (ch2 : Int) < 4 := by omega
    go_wp2_with fail
    refine reg18 (nb := W3.heap.size) (rb := w1.heap.size) (cb := w.heap.size + 1) (vb := wr.heap.size + 1 + 1) (h := h1) (ch := ch1) (nv := n1') (df := df1) rfl rfl k1 k3 k5 k6 b1' b3' b4' hb1' hb3' ?_
    intros
    have hA3 : Below W3.heap.size W3 (W3.alloc (.cells #[.int .i64 n1', .bool df1] 51)).drew := ((Below.refl _ _).alloc (Nat.le_refl _) _).drew
    have k2' := (hA3.cell (p := ⟨w2.heap.size, 1, none⟩) b2').trans k2
    have k4' := (hA3.cell (p := ⟨w.heap.size + 1, h2, none⟩) b3').trans k4
    have k7' := (hA3.cell (p := ⟨w1.heap.size + 1 + 1, ch2 * 2, none⟩) b5').trans k7
    have k8' := (hA3.cell (p := ⟨w1.heap.size + 1 + 1, ch2 * 2 + 1, none⟩) b5').trans k8
    have z2 := Nat.lt_of_lt_of_le b2' hA3.size
    have z3 := Nat.lt_of_lt_of_le b3' hA3.size
    have z5 := Nat.lt_of_lt_of_le b5' hA3.size
    clear hA3
    clear k1 k2 k3 k4 k5 k6 k7 k8
    go_wp2_with fail
    refine reg19 (rb := w2.heap.size) (cb := w.heap.size + 1) (vb := w1.heap.size + 1 + 1) (h := h2) (ch := ch2) (nv := n2') (df := df2) (nb := W3.heap.size + 1) rfl (by simp) k2' k4' k7' k8' z2 z3 z5 hb2' hb4' ?_
    intros
    clear k2' k4' k7' k8'
    clear z2 z3 z5
    go_upto_region 21 with fail
    go_cut [135, 53] from 53 to 298 (fun tv iv wx => iv = .int .i64 k ∧ tv = .bool (!df1 || !df2) ∧ wx = ((W3.alloc (.cells #[.int .i64 n1', .bool df1] 51)).alloc (.cells #[.int .i64 n2', .bool df2] 51)).drew.drew)
    case first =>
      cases df1
      · go_wp2_with fail
        go_meet
        case rel => exact ⟨rfl, rfl, rfl⟩
      · go_wp2_with fail
        go_meet
        case rel => exact ⟨rfl, rfl, rfl⟩
    case rest =>
      obtain ⟨rfl, rfl, rfl⟩ := hcut
      generalize hud : (!df1 || !df2) = ud
      have HUD := hide hud
      clear hud
      generalize hwt : meets (dOut [(n1', df1, mb1), (n2', df2, mb2)] n) (m % 16) = want
      have HWT := hide hwt
      clear hwt
      go_upto_if 135 with fail
      go_cut [31, 32, 53] from 53 to 298 (fun wv sv iv wx => iv = .int .i64 k ∧ wv = .bool want ∧ wx = ((W3.alloc (.cells #[.int .i64 n1', .bool df1] 51)).alloc (.cells #[.int .i64 n2', .bool df2] 51)).drew.drew)
      case first =>
        as_aux_lemma =>
          cases ud
          · have hdd : df1 = true ∧ df2 = true := by
              have h := HUD.out
              cases df1 <;> cases df2 <;> simp at h ⊢
            obtain ⟨rfl, rfl⟩ := hdd
            have HP : ∀ s : Int, s = n + sg mb1 n1' + sg mb2 n2' → want = (bits BinOp.and IntKind.u8 (sgn (cmpI s 0)) (m % 16) != 0) := by
              intro s hs
              rw [← HWT.out, sgn_cmp, Int.sub_zero, hs]; rfl
            have HPP := hide HP
            clear HP
            cases mb1
            all_goals
              cases mb2
              all_goals
                go_wp2_with (first | (go_at_call 8; refine (cmp_any _ _ _).mono ?_; rintro e w' ⟨rfl, rfl⟩) | (go_at_call 7; refine (sign_any _ _).mono ?_; rintro e w' ⟨rfl, rfl⟩))
                go_meet
                case rel => exact ⟨rfl, congrArg Value.bool (HPP.out _ (by simp only [sg] <;> omega)).symm, rfl⟩
          · have HP : Hid (want = (bits BinOp.and IntKind.u8 m 8 != 0)) := by
              have h := HUD.out
              show _ = _
              rw [← HWT.out, ← meets_8 m m0 m1]
              cases df1
              · rfl
              · cases df2
                · rfl
                · simp at h
            go_wp2_with fail
            go_meet
            case rel => exact ⟨rfl, by rw [HP.out], rfl⟩
      case rest =>
        obtain ⟨rfl, rfl, rfl⟩ := hcut
        have hIV : Inv w c k u6 its (((((W3.alloc (.cells #[.int .i64 n1', .bool df1] 51)).alloc (.cells #[.int .i64 n2', .bool df2] 51))).alloc (.cells #[.int .i64 4, .int .i64 0, .slice none 0 0, .slice none 0 0, .pointer (some ⟨w2.heap.size + 1 + 1, 0, none⟩), .int .u8 (m % 16)] 36)).alloc (.cells #[.pointer (some ⟨W3.heap.size + 1 + 1, 0, none⟩), .bool want] 38)).drew.drew :=
          HI.out.below (HB02.out.trans ((HBW.out.trans ((((((Below.refl _ _).alloc (Nat.le_refl _) _).alloc (by simp) _).alloc (by simp; omega) _).alloc (by simp; omega) _).drew.drew.mono HBW.out.size)).mono HB02.out.size))
        have hF : Blk (((((W3.alloc (.cells #[.int .i64 n1', .bool df1] 51)).alloc (.cells #[.int .i64 n2', .bool df2] 51))).alloc (.cells #[.int .i64 4, .int .i64 0, .slice none 0 0, .slice none 0 0, .pointer (some ⟨w2.heap.size + 1 + 1, 0, none⟩), .int .u8 (m % 16)] 36)).alloc (.cells #[.pointer (some ⟨W3.heap.size + 1 + 1, 0, none⟩), .bool want] 38)).drew.drew (W3.heap.size + 1 + 1 + 1) 38 #[.pointer (some ⟨W3.heap.size + 1 + 1, 0, none⟩), .bool want] := Blk.new' (by simp)
        have HIV := hide hIV
        have hbd1 : its.length + 1 ≤ maxLen := by have := hIV.1; unfold maxLen; omega
        have hbd2 : (its.length + 1) * 16 ≤ 140737488355328 := by have := hIV.1; omega
        have hbd3 := hIV.2.2.2.2.2
        have HF := hide hF
        clear hIV hF
        go_wp2_with (at_builtin; refine wpList_append_lies _ rfl (.tmp 165) (.tmp 172) 25 rfl (w.heap.size + 2) 38 i0 (.agg #[.pointer none, .bool false]) 2 16 Yba.underlying25 hi hz0 hz1 hz2 rfl (by decide) u6 its.length (flat its) rfl HIV.out.2.1 ⟨W3.heap.size + 1 + 1 + 1, 0, none⟩ 1 1 [.pointer (some ⟨W3.heap.size + 1 + 1, 0, none⟩), .bool want] rfl rfl (two_cells _ _ 38 _ _ HF.out) (two_one _ _) (by decide) hbd1 hbd2 hbd3 _ rfl ?_; intro g' vc' w4 hown hgrow _ _)
        refine HK.out _ (its ++ [(W3.heap.size + 1 + 1, want)]) _ (HIV.out.push ?_ hown hgrow)
        have hB7 : Below W3.heap.size W3 (((((W3.alloc (.cells #[.int .i64 n1', .bool df1] 51)).alloc (.cells #[.int .i64 n2', .bool df2] 51))).alloc (.cells #[.int .i64 4, .int .i64 0, .slice none 0 0, .slice none 0 0, .pointer (some ⟨w2.heap.size + 1 + 1, 0, none⟩), .int .u8 (m % 16)] 36)).alloc (.cells #[.pointer (some ⟨W3.heap.size + 1 + 1, 0, none⟩), .bool want] 38)).drew.drew := (((((Below.refl _ _).alloc (Nat.le_refl _) _).alloc (by simp) _).alloc (by simp; omega) _).alloc (by simp; omega) _).drew.drew
        have hTT7 := HTT.out.below hB7
        have hDD7 := HDD.out.below hB7
        have hV17 := (HV1'.out.below HBW.out).below hB7
        have hV27 := (HV2'.out.below HBW.out).below hB7
        have hFF7 : Blk (((((W3.alloc (.cells #[.int .i64 n1', .bool df1] 51)).alloc (.cells #[.int .i64 n2', .bool df2] 51))).alloc (.cells #[.int .i64 4, .int .i64 0, .slice none 0 0, .slice none 0 0, .pointer (some ⟨w2.heap.size + 1 + 1, 0, none⟩), .int .u8 (m % 16)] 36)).alloc (.cells #[.pointer (some ⟨W3.heap.size + 1 + 1, 0, none⟩), .bool want] 38)).drew.drew (W3.heap.size + 1 + 1) 36 #[.int .i64 4, .int .i64 0, .slice none 0 0, .slice none 0 0, .pointer (some ⟨w2.heap.size + 1 + 1, 0, none⟩), .int .u8 (m % 16)] := (Blk.new' (by simp)).below ((Below.refl _ _).alloc (Nat.le_refl _) _).drew.drew
        rw [← HWT.out]
        refine good_cmp (db := w2.heap.size + 1 + 1) (tb := w2.heap.size + 1) (c := c) (ts := [(n1', df1, mb1), (n2', df2, mb2)]) (n := n) (mask := m % 16) ?_ (by simp) (by omega) (by omega) ?_ ?_ ?_
        · have := HIV.out.2.2.2.1
          rw [← HWT.out] at this
          exact this
        · rw [← HWT.out] at hFF7
          exact hFF7
        · rw [← HWT.out] at hDD7
          exact hDD7
        · rw [← HWT.out] at hTT7 hV17 hV27
          intro q hq
          match q, hq with
          | 0, _ =>
            refine ⟨h1, wr.heap.size + 1 + 1, _, _, l1, ?_, ?_, hTT7, hV17, rfl, rfl, rfl, ?_, ?_⟩
            · show -9223372036854775808 ≤ n1'; omega
            · show n1' ≤ 9223372036854775807; omega
            · rw [HCH1.out]; exact HT1.out.1
            · rw [HCH1.out]; exact HT1.out.2
          | 1, _ =>
            refine ⟨h2, w1.heap.size + 1 + 1, _, _, l2, ?_, ?_, hTT7, hV27, rfl, rfl, rfl, ?_, ?_⟩
            · show -9223372036854775808 ≤ n2'; omega
            · show n2' ≤ 9223372036854775807; omega
            · rw [HCH2.out]; exact HT2.out.1
            · rw [HCH2.out]; exact HT2.out.2
end Go.Proofs.Ybulkcnuy
