import Derived.Test.YbulkcnuyLoop
namespace Go.Proofs.Ybulkcnuy
open Go.RowKit
set_option linter.unusedVariables false
set_option linter.unusedSimpArgs false

set_option maxHeartbeats 8000000 in
set_option maxRecDepth 1000000 in
theorem case3 {K : Act → World → Prop} {Q0 : Exit → Act → World → Prop} {body : Code} (hbody : (Yba.f3.body.bind firstLoop).getD .skip = body)
    {w wr : World} {c : Nat → Nat} {k len cap sb so : Nat} {u6 : Value} {its : List (Nat × Bool)} {o x b m d n : Int} {i0 : TypeInfo}
    {u8 u9 u10 u11 u12 u13 u14 u15 u16 u17 u18 u19 u20 u21 u22 u23 u24 u25 u26 u27 u28 u29 u30 u31 u32 u54 u55 u56 u57 u58 u59 u60 u61 u62 u63 u64 u65 u66 u67 u68 u69 u70 u71 u72 u73 u74 u75 u76 u77 u78 u79 u80 u81 u82 u83 u84 u85 u86 u87 u88 u89 u90 u91 u92 u93 u94 u95 u96 u97 u98 u99 u100 u101 u102 u103 u104 u105 u106 u107 u108 u109 u110 u111 u112 u113 u114 u115 u116 u117 u118 u119 u120 u121 u122 u123 u124 u125 u126 u127 u128 u129 u130 u131 u132 u133 u134 u135 u136 u137 u138 u139 u140 u141 u142 u143 u144 u145 u146 u147 u148 u149 u150 u151 u152 u153 u154 u155 u156 u157 u158 u159 u160 u161 u162 u163 u164 u165 u166 u167 u168 u169 u170 u171 u172 u173 u174 u175 u176 u177 u178 u179 u180 u181 u182 u183 u184 u185 u186 u187 u188 u189 u190 u191 u192 u193 u194 u195 u196 u197 u198 u199 u200 u201 u202 u203 u204 u205 u206 u207 u208 u209 u210 u211 u212 u213 u214 u215 u216 u217 u218 u219 u220 u221 u222 u223 u224 u225 u226 u227 u228 u229 u230 u231 u232 u233 u234 u235 u236 u237 u238 u239 u240 u241 u242 u243 u244 u245 u246 u247 u248 u249 u250 u251 u252 u253 u254 u255 u256 u257 u258 u259 u260 u261 u262 u263 u264 u265 u266 u267 u268 u269 u270 u271 u272 u273 u274 u275 u276 u277 u278 u279 u280 u281 u282 u283 u284 u285 u286 u287 u288 u289 u290 u291 u292 u293 u294 u295 u296 u297 u298 : Value}
    {f0 f1 f2 f3 f4 f7 f33 f34 f35 f36 f37 f38 f39 f40 f41 f42 f43 f44 f45 f46 f47 f48 f49 f50 f299 f300 f301 f302 f303 f304 f305 f306 f307 f308 f309 f310 f311 f312 : Value}
    (hi : Yba.prog.info? 38 = some i0) (hz0 : i0.zero = some (.agg #[.pointer none, .bool false])) (hz1 : i0.size = 2) (hz2 : i0.bytes = 16)
    (HC : Hid (∀ j, c j < 4)) (hl' : (len : Int) ≤ 512) (hk : k ≤ len) (hlt : k < len) (hkm : k + 1 ≤ 512) (hI : Inv w c k u6 its wr) (hsb' : sb < wr.heap.size)
    (o0 : 0 ≤ o) (o1 : o ≤ 255) (x0 : 0 ≤ x) (x1 : x ≤ 255) (b0 : 0 ≤ b) (b1 : b ≤ 255) (m0 : 0 ≤ m) (m1 : m ≤ 255) (d0 : 0 ≤ d) (d1 : d ≤ 255) (n0 : -2147483648 ≤ n) (n1 : n ≤ 2147483647)
    (p0 : wr.cell? ⟨sb, so + k * 6, none⟩ = some (.int .u8 o)) (p1 : wr.cell? ⟨sb, so + k * 6 + 1, none⟩ = some (.int .u8 x)) (p2 : wr.cell? ⟨sb, so + k * 6 + 2, none⟩ = some (.int .u8 b))
    (p3 : wr.cell? ⟨sb, so + k * 6 + 3, none⟩ = some (.int .u8 m)) (p4 : wr.cell? ⟨sb, so + k * 6 + 4, none⟩ = some (.int .u8 d)) (p5 : wr.cell? ⟨sb, so + k * 6 + 5, none⟩ = some (.int .i32 n))
    (ho : o % 5 = 3)
    (hK : ∀ {y8 y9 y10 y11 y12 y13 y14 y15 y16 y17 y18 y19 y20 y21 y22 y23 y24 y25 y26 y27 y28 y29 y30 y31 y32 y54 y55 y56 y57 y58 y59 y60 y61 y62 y63 y64 y65 y66 y67 y68 y69 y70 y71 y72 y73 y74 y75 y76 y77 y78 y79 y80 y81 y82 y83 y84 y85 y86 y87 y88 y89 y90 y91 y92 y93 y94 y95 y96 y97 y98 y99 y100 y101 y102 y103 y104 y105 y106 y107 y108 y109 y110 y111 y112 y113 y114 y115 y116 y117 y118 y119 y120 y121 y122 y123 y124 y125 y126 y127 y128 y129 y130 y131 y132 y133 y134 y135 y136 y137 y138 y139 y140 y141 y142 y143 y144 y145 y146 y147 y148 y149 y150 y151 y152 y153 y154 y155 y156 y157 y158 y159 y160 y161 y162 y163 y164 y165 y166 y167 y168 y169 y170 y171 y172 y173 y174 y175 y176 y177 y178 y179 y180 y181 y182 y183 y184 y185 y186 y187 y188 y189 y190 y191 y192 y193 y194 y195 y196 y197 y198 y199 y200 y201 y202 y203 y204 y205 y206 y207 y208 y209 y210 y211 y212 y213 y214 y215 y216 y217 y218 y219 y220 y221 y222 y223 y224 y225 y226 y227 y228 y229 y230 y231 y232 y233 y234 y235 y236 y237 y238 y239 y240 y241 y242 y243 y244 y245 y246 y247 y248 y249 y250 y251 y252 y253 y254 y255 y256 y257 y258 y259 y260 y261 y262 y263 y264 y265 y266 y267 y268 y269 y270 y271 y272 y273 y274 y275 y276 y277 y278 y279 y280 y281 y282 y283 y284 y285 y286 y287 y288 y289 y290 y291 y292 y293 y294 y295 y296 y297 y298 : Value} (v' : Value) (its' : List (Nat × Bool)) (w' : World), Inv w c (k + 1) v' its' w' → K ⟨List.toArray (f0 :: f1 :: f2 :: f3 :: f4 :: (.slice (some ⟨w.heap.size + 1, 0, none⟩) 3 3) :: v' :: f7 :: y8 :: y9 :: y10 :: y11 :: y12 :: y13 :: y14 :: y15 :: y16 :: y17 :: y18 :: y19 :: y20 :: y21 :: y22 :: y23 :: y24 :: y25 :: y26 :: y27 :: y28 :: y29 :: y30 :: y31 :: y32 :: f33 :: f34 :: f35 :: f36 :: f37 :: f38 :: f39 :: f40 :: f41 :: f42 :: f43 :: f44 :: f45 :: f46 :: f47 :: f48 :: f49 :: f50 :: (.slice (some ⟨sb, so, none⟩) len cap) :: (.int .i64 len) :: (.int .i64 ((k : Int) + 1)) :: y54 :: y55 :: y56 :: y57 :: y58 :: y59 :: y60 :: y61 :: y62 :: y63 :: y64 :: y65 :: y66 :: y67 :: y68 :: y69 :: y70 :: y71 :: y72 :: y73 :: y74 :: y75 :: y76 :: y77 :: y78 :: y79 :: y80 :: y81 :: y82 :: y83 :: y84 :: y85 :: y86 :: y87 :: y88 :: y89 :: y90 :: y91 :: y92 :: y93 :: y94 :: y95 :: y96 :: y97 :: y98 :: y99 :: y100 :: y101 :: y102 :: y103 :: y104 :: y105 :: y106 :: y107 :: y108 :: y109 :: y110 :: y111 :: y112 :: y113 :: y114 :: y115 :: y116 :: y117 :: y118 :: y119 :: y120 :: y121 :: y122 :: y123 :: y124 :: y125 :: y126 :: y127 :: y128 :: y129 :: y130 :: y131 :: y132 :: y133 :: y134 :: y135 :: y136 :: y137 :: y138 :: y139 :: y140 :: y141 :: y142 :: y143 :: y144 :: y145 :: y146 :: y147 :: y148 :: y149 :: y150 :: y151 :: y152 :: y153 :: y154 :: y155 :: y156 :: y157 :: y158 :: y159 :: y160 :: y161 :: y162 :: y163 :: y164 :: y165 :: y166 :: y167 :: y168 :: y169 :: y170 :: y171 :: y172 :: y173 :: y174 :: y175 :: y176 :: y177 :: y178 :: y179 :: y180 :: y181 :: y182 :: y183 :: y184 :: y185 :: y186 :: y187 :: y188 :: y189 :: y190 :: y191 :: y192 :: y193 :: y194 :: y195 :: y196 :: y197 :: y198 :: y199 :: y200 :: y201 :: y202 :: y203 :: y204 :: y205 :: y206 :: y207 :: y208 :: y209 :: y210 :: y211 :: y212 :: y213 :: y214 :: y215 :: y216 :: y217 :: y218 :: y219 :: y220 :: y221 :: y222 :: y223 :: y224 :: y225 :: y226 :: y227 :: y228 :: y229 :: y230 :: y231 :: y232 :: y233 :: y234 :: y235 :: y236 :: y237 :: y238 :: y239 :: y240 :: y241 :: y242 :: y243 :: y244 :: y245 :: y246 :: y247 :: y248 :: y249 :: y250 :: y251 :: y252 :: y253 :: y254 :: y255 :: y256 :: y257 :: y258 :: y259 :: y260 :: y261 :: y262 :: y263 :: y264 :: y265 :: y266 :: y267 :: y268 :: y269 :: y270 :: y271 :: y272 :: y273 :: y274 :: y275 :: y276 :: y277 :: y278 :: y279 :: y280 :: y281 :: y282 :: y283 :: y284 :: y285 :: y286 :: y287 :: y288 :: y289 :: y290 :: y291 :: y292 :: y293 :: y294 :: y295 :: y296 :: y297 :: y298 :: f299 :: f300 :: f301 :: f302 :: f303 :: f304 :: f305 :: f306 :: f307 :: f308 :: f309 :: f310 :: f311 :: f312 :: []), []⟩ w') :
    Code.wp Yba.prog body (Exit.then K Q0) ⟨List.toArray (f0 :: f1 :: f2 :: f3 :: f4 :: (.slice (some ⟨w.heap.size + 1, 0, none⟩) 3 3) :: u6 :: f7 :: u8 :: u9 :: u10 :: u11 :: u12 :: u13 :: u14 :: u15 :: u16 :: u17 :: u18 :: u19 :: u20 :: u21 :: u22 :: u23 :: u24 :: u25 :: u26 :: u27 :: u28 :: u29 :: u30 :: u31 :: u32 :: f33 :: f34 :: f35 :: f36 :: f37 :: f38 :: f39 :: f40 :: f41 :: f42 :: f43 :: f44 :: f45 :: f46 :: f47 :: f48 :: f49 :: f50 :: (.slice (some ⟨sb, so, none⟩) len cap) :: (.int .i64 len) :: (.int .i64 k) :: u54 :: u55 :: u56 :: u57 :: u58 :: u59 :: u60 :: u61 :: u62 :: u63 :: u64 :: u65 :: u66 :: u67 :: u68 :: u69 :: u70 :: u71 :: u72 :: u73 :: u74 :: u75 :: u76 :: u77 :: u78 :: u79 :: u80 :: u81 :: u82 :: u83 :: u84 :: u85 :: u86 :: u87 :: u88 :: u89 :: u90 :: u91 :: u92 :: u93 :: u94 :: u95 :: u96 :: u97 :: u98 :: u99 :: u100 :: u101 :: u102 :: u103 :: u104 :: u105 :: u106 :: u107 :: u108 :: u109 :: u110 :: u111 :: u112 :: u113 :: u114 :: u115 :: u116 :: u117 :: u118 :: u119 :: u120 :: u121 :: u122 :: u123 :: u124 :: u125 :: u126 :: u127 :: u128 :: u129 :: u130 :: u131 :: u132 :: u133 :: u134 :: u135 :: u136 :: u137 :: u138 :: u139 :: u140 :: u141 :: u142 :: u143 :: u144 :: u145 :: u146 :: u147 :: u148 :: u149 :: u150 :: u151 :: u152 :: u153 :: u154 :: u155 :: u156 :: u157 :: u158 :: u159 :: u160 :: u161 :: u162 :: u163 :: u164 :: u165 :: u166 :: u167 :: u168 :: u169 :: u170 :: u171 :: u172 :: u173 :: u174 :: u175 :: u176 :: u177 :: u178 :: u179 :: u180 :: u181 :: u182 :: u183 :: u184 :: u185 :: u186 :: u187 :: u188 :: u189 :: u190 :: u191 :: u192 :: u193 :: u194 :: u195 :: u196 :: u197 :: u198 :: u199 :: u200 :: u201 :: u202 :: u203 :: u204 :: u205 :: u206 :: u207 :: u208 :: u209 :: u210 :: u211 :: u212 :: u213 :: u214 :: u215 :: u216 :: u217 :: u218 :: u219 :: u220 :: u221 :: u222 :: u223 :: u224 :: u225 :: u226 :: u227 :: u228 :: u229 :: u230 :: u231 :: u232 :: u233 :: u234 :: u235 :: u236 :: u237 :: u238 :: u239 :: u240 :: u241 :: u242 :: u243 :: u244 :: u245 :: u246 :: u247 :: u248 :: u249 :: u250 :: u251 :: u252 :: u253 :: u254 :: u255 :: u256 :: u257 :: u258 :: u259 :: u260 :: u261 :: u262 :: u263 :: u264 :: u265 :: u266 :: u267 :: u268 :: u269 :: u270 :: u271 :: u272 :: u273 :: u274 :: u275 :: u276 :: u277 :: u278 :: u279 :: u280 :: u281 :: u282 :: u283 :: u284 :: u285 :: u286 :: u287 :: u288 :: u289 :: u290 :: u291 :: u292 :: u293 :: u294 :: u295 :: u296 :: u297 :: u298 :: f299 :: f300 :: f301 :: f302 :: f303 :: f304 :: f305 :: f306 :: f307 :: f308 :: f309 :: f310 :: f311 :: f312 :: []), []⟩ wr := by
  subst hbody
  conv => arg 2; whnf
  have HK := @hide _ @hK
  clear hK
  obtain ⟨kk, hkk⟩ : ∃ kk : Nat, x % 4 = (kk : Int) := ⟨(x % 4).toNat, by omega⟩
  have hk3 : kk ≤ 3 := by omega
  have hmk := fun K (h : K ≤ 3) w => run_make_row' (P := Yba.prog) 32 30 (.pointer none) 8 Yba.underlying32 info30 rfl .i64 .i64 K (by omega) (by omega) w
  have HMK := hide hmk
  clear hmk
  rcases hI.form with ⟨rfl, rfl⟩ | ⟨g, vc, nn, rfl, hnn, hvc, hgl, hgb⟩
  · have HI := hide hI
    clear hI
    go_upto_if 247 with fail
    have HKK := hide hkk
    have HO := hide ho
    clear hkk ho
    go_cut [14, 53] from 53 to 298 (fun kv iv wx => iv = .int .i64 k ∧ kv = .int .i64 0 ∧ wx = wr.alloc (.cells #[.int .u8 o, .int .u8 x, .int .u8 b, .int .u8 m, .int .u8 d, .int .i32 n] 27))
    case first =>
      by_cases hgt : (0 : Int) < kk
      · go_wp2_with fail
        go_meet
        case rel => exact ⟨rfl, rfl, rfl⟩
      · have hk0 : (kk : Int) = 0 := by omega
        go_wp2_with fail
        go_meet
        case rel => exact ⟨rfl, rfl, rfl⟩
    case rest =>
      obtain ⟨rfl, rfl, rfl⟩ := hcut
      have hmk : ∀ w, (Instr.makeSlice 32 (.int .i64 0) (.int .i64 0)).run Yba.prog w = .ok (.slice (some ⟨w.heap.size, 0, none⟩) 0 0) (w.alloc (.cells (madeCells #[.pointer none] 0) 30)) := HMK.out 0 (by omega)
      have ho := HO.out
      clear HO
      go_wp2_with fail
      have HO := hide ho
      clear ho
      rename World => W0
      go_loopw [16, 260] (fun wv i w2 => i = .int .i64 0 ∧ wv = .bool false ∧ w2 = (W0.alloc (.cells #[.int .u8 o, .int .u8 x, .int .u8 b, .int .u8 m, .int .u8 d, .int .i32 n] 27)).alloc (.cells (madeCells #[.pointer none] 0) 30)) (fun _ _ _ => 0)
      case atStart => exact ⟨rfl, rfl, rfl⟩
      case round =>
        obtain ⟨rfl, rfl, hw2⟩ := hrel
        have hb2 : Below W0.heap.size W0 wr := by rw [hw2]; exact ((Below.refl _ _).alloc (Nat.le_refl _) _).alloc (by simp) _
        have hA : Blk wr (W0.heap.size + 1) 30 (madeCells #[.pointer none] 0) := by rw [hw2]; exact Blk.new' (by simp)
        have HA := hide hA
        clear hw2 hA
        have hBB : Below wr.heap.size wr ((wr.alloc (.cells #[.int .i64 3, .int .i64 0, .slice none 0 0, .slice (some ⟨W0.heap.size + 1, 0, none⟩) 0 0, .pointer none, .int .u8 0] 36)).alloc (.cells #[.pointer (some ⟨wr.heap.size, 0, none⟩), .bool (false)] 38)) := (((Below.refl _ _).alloc (Nat.le_refl _) _).alloc (by simp) _)
        have HBB := hide hBB
        clear hBB
        have HIV := hide (((HI.out).below hb2).below HBB.out)
        have hbd1 : 0 + 1 ≤ maxLen := by have := HIV.out.1; (try simp at this); unfold maxLen; omega
        have hbd2 : (0 + 1) * 16 ≤ 140737488355328 := by have := HIV.out.1; (try simp at this); omega
        have hbd3 : w.heap.size + 2 ≤ ((wr.alloc (.cells #[.int .i64 3, .int .i64 0, .slice none 0 0, .slice (some ⟨W0.heap.size + 1, 0, none⟩) 0 0, .pointer none, .int .u8 0] 36)).alloc (.cells #[.pointer (some ⟨wr.heap.size, 0, none⟩), .bool (false)] 38)).heap.size := HIV.out.2.2.2.2.2
        have hF : Blk ((wr.alloc (.cells #[.int .i64 3, .int .i64 0, .slice none 0 0, .slice (some ⟨W0.heap.size + 1, 0, none⟩) 0 0, .pointer none, .int .u8 0] 36)).alloc (.cells #[.pointer (some ⟨wr.heap.size, 0, none⟩), .bool (false)] 38)) (wr.heap.size + 1) 38 #[.pointer (some ⟨wr.heap.size, 0, none⟩), .bool (false)] := Blk.new' (by simp)
        go_wp2_with (at_builtin; refine wpList_append_lies _ rfl (.tmp 289) (.tmp 296) 25 rfl (w.heap.size + 2) 38 i0 (.agg #[.pointer none, .bool false]) 2 16 Yba.underlying25 hi hz0 hz1 hz2 rfl (by decide) (.slice none 0 0) 0 (flat []) rfl HIV.out.2.1 ⟨wr.heap.size + 1, 0, none⟩ 1 1 [.pointer (some ⟨wr.heap.size, 0, none⟩), .bool (false)] rfl rfl (two_cells _ _ 38 _ _ hF) (two_one _ _) (by decide) hbd1 hbd2 hbd3 _ rfl ?_; intro g' vc' w3 hown hgrow _ _)
        refine HK.out _ ([] ++ [(wr.heap.size, false)]) _ (HIV.out.push ?_ hown hgrow)
        exact good_or (ab := W0.heap.size + 1) (ac := 0) (its := []) (A := madeCells #[.pointer none] 0) (by simp) ((Blk.new' rfl).below ((Below.refl _ _).alloc (Nat.le_refl _) _)) (HA.out.below HBB.out) (fun j h => by simp at h) (fun j h => by simp at h)
  · have hnm : nn ≤ 512 := by have := hI.1; omega
    have HI := hide hI
    have HN := hide hnn
    clear hI hnn
    go_upto_if 247 with fail
    have HKK := hide hkk
    have HO := hide ho
    clear hkk ho
    go_cut [14, 53] from 53 to 298 (fun kv iv wx => iv = .int .i64 k ∧ ∃ K : Nat, K ≤ nn ∧ K ≤ 3 ∧ kv = .int .i64 K ∧ wx = wr.alloc (.cells #[.int .u8 o, .int .u8 x, .int .u8 b, .int .u8 m, .int .u8 d, .int .i32 n] 27))
    case first =>
      by_cases hgt : (nn : Int) < kk
      · go_wp2_with fail
        go_meet
        case rel => exact ⟨rfl, nn, Nat.le_refl _, by omega, rfl, rfl⟩
      · go_wp2_with fail
        go_meet
        case rel => exact ⟨rfl, kk, by omega, by omega, rfl, rfl⟩
    case rest =>
      obtain ⟨rfl, K, hK, hK3, rfl, rfl⟩ := hcut
      obtain ⟨bs, rfl⟩ : ∃ bs, nn = bs + K := ⟨nn - K, by omega⟩
      have hmk := HMK.out K hK3
      obtain ⟨l, r, HL, HR, HLR⟩ : ∃ l r : List (Nat × Bool), Hid (l.length = bs) ∧ Hid (r.length = K) ∧ Hid (its = l ++ r) :=
        ⟨its.take bs, its.drop bs, by show _ = _; rw [List.length_take, ← HN.out]; omega, by show _ = _; rw [List.length_drop, ← HN.out]; omega, (List.take_append_drop bs its).symm⟩
      have ho := HO.out
      clear HO
      by_cases hbv : bs < vc
      · have hc : ∀ j, j < K → ∃ p bq, (∀ h : j < r.length, r[j] = (p, bq)) ∧ wr.cell? ⟨g, bs * 2 + j * 2, none⟩ = some (.pointer (some ⟨p, 0, none⟩)) ∧ wr.cell? ⟨g, bs * 2 + j * 2 + 1, none⟩ = some (.bool bq) := by
          intro j hj
          have hlt' : bs + j < its.length := by rw [← HN.out]; omega
          obtain ⟨-, e1, e2, -⟩ := HI.out.cells (bs + j) hlt'
          have he : ∀ h : j < r.length, r[j] = its[bs + j] := by
            intro h
            have hi2 : its[bs + j]? = r[j]? := by rw [HLR.out, ← HL.out, List.getElem?_append_right (by omega)]; congr 1; omega
            rw [List.getElem?_eq_getElem hlt', List.getElem?_eq_getElem h] at hi2
            exact (Option.some.inj hi2).symm
          have ea : (bs + j) * 2 = bs * 2 + j * 2 := by omega
          rw [ea] at e1 e2
          exact ⟨_, _, he, e1, e2⟩
        have HCX := hide hc
        clear hc
        go_wp2_with fail
        have HO := hide ho
        clear ho
        rename World => W0
        go_loopw [16, 260] (fun wv i w2 => ∃ (j : Nat) (A : Array Value), j ≤ K ∧ i = .int .i64 j ∧ wv = .bool ((r.take j).any (fun y => y.2)) ∧ Below W0.heap.size W0 w2 ∧ W0.heap.size + 2 ≤ w2.heap.size ∧ Blk w2 (W0.heap.size + 1) 30 A ∧ A.size = K ∧ Hid (∀ i (_ : i < j) (hr : i < r.length), A[i]? = some (.pointer (some ⟨r[i].1, 0, none⟩)))) (fun _ i _ => K - (intOf i).toNat)
        case atStart => exact ⟨0, madeCells #[.pointer none] K, Nat.zero_le _, rfl, rfl, ((Below.refl _ _).alloc (Nat.le_refl _) _).alloc (by simp) _, by simp, Blk.new' (by simp), made_size K, fun i h => absurd h (Nat.not_lt_zero i)⟩
        case round =>
          obtain ⟨j, A, hj, rfl, rfl, hb2, hsz2, hA, hAs, HAc⟩ := hrel
          by_cases hjK : j < K
          · obtain ⟨p, bq, hr, e1, e2⟩ := HCX.out j hjK
            have f1 := (hb2.cell (p := ⟨g, bs * 2 + j * 2, none⟩) hgl).trans e1
            have f2 := (hb2.cell (p := ⟨g, bs * 2 + j * 2 + 1, none⟩) hgl).trans e2
            obtain ⟨u, hu⟩ : ∃ u, A[j]? = some u := ⟨_, Array.getElem?_eq_getElem (by omega)⟩
            have f3 := (hA.cell j).trans hu
            have f4 := hA.frozen j
            have hgl2 : g < wr.heap.size := by omega
            have hs1 : W0.heap.size + 1 < wr.heap.size := by omega
            have hs2 : W0.heap.size + 1 < wr.heap.size + 1 := by omega
            have hj' : (j : Int) < K := by omega
            have hacc : (r.take (j + 1)).any (fun y => y.2) = ((r.take j).any (fun y => y.2) || bq) := by
              have hjr : j < r.length := by rw [HR.out]; exact hjK
              rw [List.take_succ_eq_append_getElem hjr, hr hjr]; simp
            have HAC := hide hacc
            have HAK := hide hA
            have HRR := hide hr
            have HU := hide hu
            clear e1 e2 hA hacc hr hu
            generalize hwb : (r.take j).any (fun y => y.2) = wb at HAC ⊢
            have HWB := hide hwb
            clear hwb
            cases wb
            all_goals
              go_wp2_with fail
              go_roundw
              case rel =>
                refine ⟨j + 1, A.setIfInBounds j (.pointer (some ⟨p, 0, none⟩)), by omega, by go_num, by rw [HAC.out]; rfl, (hb2.setCell (by show W0.heap.size ≤ W0.heap.size + 1; omega) _).alloc (by simp [World.setCell]; omega) _, by simp [World.setCell]; omega, (HAK.out.set j _).below ((Below.refl _ _).alloc (Nat.le_refl _) _), by simpa using hAs, ?_⟩
                intro i hij hir
                by_cases hije : i = j
                · subst hije
                  rw [HRR.out hir, Array.getElem?_setIfInBounds_self_of_lt (by omega)]
                · rw [Array.getElem?_setIfInBounds_ne (by omega)]
                  exact HAc.out i (by omega) hir
              case measure => simp [intOf]; omega
          · obtain rfl : j = K := by omega
            have hrt : r.take j = r := List.take_of_length_le (by rw [HR.out]; exact Nat.le_refl _)
            rw [hrt]
            have HRT := hide hrt
            have HAK := hide hA
            have hinv : Inv w c k (.slice (some ⟨g, 0, none⟩) bs vc) l W0 := by
              have h := HI.out
              rw [HLR.out] at h
              have h' := h.pop
              rw [HL.out] at h'
              exact h'
            have HNV := hide hinv
            have hlb := HL.out
            subst hlb
            clear hinv hA hrt
            have hBB : Below wr.heap.size wr ((wr.alloc (.cells #[.int .i64 3, .int .i64 0, .slice none 0 0, .slice (some ⟨W0.heap.size + 1, 0, none⟩) j j, .pointer none, .int .u8 0] 36)).alloc (.cells #[.pointer (some ⟨wr.heap.size, 0, none⟩), .bool (r.any (fun y => y.2))] 38)) := (((Below.refl _ _).alloc (Nat.le_refl _) _).alloc (by simp) _)
            have HBB := hide hBB
            clear hBB
            have HIV := hide (((HNV.out).below hb2).below HBB.out)
            have hbd1 : l.length + 1 ≤ maxLen := by have := HIV.out.1; (try simp at this); unfold maxLen; omega
            have hbd2 : (l.length + 1) * 16 ≤ 140737488355328 := by have := HIV.out.1; (try simp at this); omega
            have hbd3 : w.heap.size + 2 ≤ ((wr.alloc (.cells #[.int .i64 3, .int .i64 0, .slice none 0 0, .slice (some ⟨W0.heap.size + 1, 0, none⟩) j j, .pointer none, .int .u8 0] 36)).alloc (.cells #[.pointer (some ⟨wr.heap.size, 0, none⟩), .bool (r.any (fun y => y.2))] 38)).heap.size := HIV.out.2.2.2.2.2
            have hF : Blk ((wr.alloc (.cells #[.int .i64 3, .int .i64 0, .slice none 0 0, .slice (some ⟨W0.heap.size + 1, 0, none⟩) j j, .pointer none, .int .u8 0] 36)).alloc (.cells #[.pointer (some ⟨wr.heap.size, 0, none⟩), .bool (r.any (fun y => y.2))] 38)) (wr.heap.size + 1) 38 #[.pointer (some ⟨wr.heap.size, 0, none⟩), .bool (r.any (fun y => y.2))] := Blk.new' (by simp)
            go_wp2_with (at_builtin; refine wpList_append_lies _ rfl (.tmp 289) (.tmp 296) 25 rfl (w.heap.size + 2) 38 i0 (.agg #[.pointer none, .bool false]) 2 16 Yba.underlying25 hi hz0 hz1 hz2 rfl (by decide) (.slice (some ⟨g, 0, none⟩) l.length vc) l.length (flat l) rfl HIV.out.2.1 ⟨wr.heap.size + 1, 0, none⟩ 1 1 [.pointer (some ⟨wr.heap.size, 0, none⟩), .bool (r.any (fun y => y.2))] rfl rfl (two_cells _ _ 38 _ _ hF) (two_one _ _) (by decide) hbd1 hbd2 hbd3 _ rfl ?_; intro g' vc' w3 hown hgrow _ _)
            refine HK.out _ (l ++ [(wr.heap.size, r.any (fun y => y.2))]) _ (HIV.out.push ?_ hown hgrow)
            have hjr : j = r.length := HR.out.symm
            subst hjr
            exact good_or (ab := W0.heap.size + 1) (ac := r.length) (its := r) (A := A) (by omega) ((Blk.new' rfl).below ((Below.refl _ _).alloc (Nat.le_refl _) _)) (HAK.out.below HBB.out) (fun i h => HAc.out i h h) (fun i h => ((HI.out.2.2.1 _ (by rw [HLR.out]; exact List.mem_append_right _ (List.getElem_mem h))).later (Kept.of_below hb2)).later (Kept.of_below HBB.out))
      · obtain rfl : K = 0 := by omega
        obtain rfl : r = [] := List.length_eq_zero_iff.1 HR.out
        have hlb := HL.out
        subst hlb
        have hinv : Inv w c k (.slice (some ⟨g, 0, none⟩) l.length vc) l wr := by
          have h := HI.out
          rw [HLR.out] at h
          exact h.pop
        have HNV := hide hinv
        clear hinv
        have hvl : l.length = vc := by omega
        subst hvl
        clear hmk
        have hmk : ∀ w, (Instr.makeSlice 32 (.int .i64 0) (.int .i64 0)).run Yba.prog w = .ok (.slice (some ⟨w.heap.size, 0, none⟩) 0 0) (w.alloc (.cells (madeCells #[.pointer none] 0) 30)) := HMK.out 0 (by omega)
        have hl512 : l.length ≤ 512 := by omega
        simp only [Nat.add_zero, Int.natCast_zero]
        go_wp2_with fail
        have HO := hide ho
        clear ho
        rename World => W0
        go_loopw [16, 260] (fun wv i w2 => i = .int .i64 0 ∧ wv = .bool false ∧ w2 = (W0.alloc (.cells #[.int .u8 o, .int .u8 x, .int .u8 b, .int .u8 m, .int .u8 d, .int .i32 n] 27)).alloc (.cells (madeCells #[.pointer none] 0) 30)) (fun _ _ _ => 0)
        case atStart => exact ⟨rfl, rfl, rfl⟩
        case round =>
          obtain ⟨rfl, rfl, hw2⟩ := hrel
          have hb2 : Below W0.heap.size W0 wr := by rw [hw2]; exact ((Below.refl _ _).alloc (Nat.le_refl _) _).alloc (by simp) _
          have hA : Blk wr (W0.heap.size + 1) 30 (madeCells #[.pointer none] 0) := by rw [hw2]; exact Blk.new' (by simp)
          have HA := hide hA
          clear hw2 hA
          have hBB : Below wr.heap.size wr ((wr.alloc (.cells #[.int .i64 3, .int .i64 0, .slice none 0 0, .slice (some ⟨W0.heap.size + 1, 0, none⟩) 0 0, .pointer none, .int .u8 0] 36)).alloc (.cells #[.pointer (some ⟨wr.heap.size, 0, none⟩), .bool (false)] 38)) := (((Below.refl _ _).alloc (Nat.le_refl _) _).alloc (by simp) _)
          have HBB := hide hBB
          clear hBB
          have HIV := hide (((HNV.out).below hb2).below HBB.out)
          have hbd1 : l.length + 1 ≤ maxLen := by have := HIV.out.1; (try simp at this); unfold maxLen; omega
          have hbd2 : (l.length + 1) * 16 ≤ 140737488355328 := by have := HIV.out.1; (try simp at this); omega
          have hbd3 : w.heap.size + 2 ≤ ((wr.alloc (.cells #[.int .i64 3, .int .i64 0, .slice none 0 0, .slice (some ⟨W0.heap.size + 1, 0, none⟩) 0 0, .pointer none, .int .u8 0] 36)).alloc (.cells #[.pointer (some ⟨wr.heap.size, 0, none⟩), .bool (false)] 38)).heap.size := HIV.out.2.2.2.2.2
          have hF : Blk ((wr.alloc (.cells #[.int .i64 3, .int .i64 0, .slice none 0 0, .slice (some ⟨W0.heap.size + 1, 0, none⟩) 0 0, .pointer none, .int .u8 0] 36)).alloc (.cells #[.pointer (some ⟨wr.heap.size, 0, none⟩), .bool (false)] 38)) (wr.heap.size + 1) 38 #[.pointer (some ⟨wr.heap.size, 0, none⟩), .bool (false)] := Blk.new' (by simp)
          go_wp2_with (at_builtin; refine wpList_append_lies _ rfl (.tmp 289) (.tmp 296) 25 rfl (w.heap.size + 2) 38 i0 (.agg #[.pointer none, .bool false]) 2 16 Yba.underlying25 hi hz0 hz1 hz2 rfl (by decide) (.slice (some ⟨g, 0, none⟩) l.length l.length) l.length (flat l) rfl HIV.out.2.1 ⟨wr.heap.size + 1, 0, none⟩ 1 1 [.pointer (some ⟨wr.heap.size, 0, none⟩), .bool (false)] rfl rfl (two_cells _ _ 38 _ _ hF) (two_one _ _) (by decide) hbd1 hbd2 hbd3 _ rfl ?_; intro g' vc' w3 hown hgrow _ _)
          refine HK.out _ (l ++ [(wr.heap.size, false)]) _ (HIV.out.push ?_ hown hgrow)
          exact good_or (ab := W0.heap.size + 1) (ac := 0) (its := []) (A := madeCells #[.pointer none] 0) (by simp) ((Blk.new' rfl).below ((Below.refl _ _).alloc (Nat.le_refl _) _)) (HA.out.below HBB.out) (fun j h => by simp at h) (fun j h => by simp at h)
end Go.Proofs.Ybulkcnuy
