import Derived.Test.YbulkbhtkB12
namespace Go.Proofs.Ybulkbhtk
open Go.RowKit

set_option maxRecDepth 100000 in
set_option maxHeartbeats 4000000 in
theorem rest33 {w wr : World} {P n l : Nat} {mk : Nat → Int} {pub : Nat} {ia : Nat → Option Addr} {ic : Nat → Nat} {a4 : Option Addr} {nT c4s : Nat} {tu wh pr : Nat → Int} {mask : Int}
    {c0 c1 c2 c5 c6 c7 c8 c9 c10 c14 c21 c23 c24 c25 c26 c27 c28 c29 c30 c31 c32 c33 c34 c35 c36 c37 c38 c39 c40 c41 c42 c43 c44 c45 c46 c47 c48 c49 c50 c51 c52 c53 c54 c55 c56 c57 c58 c59 c60 c61 c62 c63 c64 c65 c66 c67 c68 c69 c70 c71 c72 c73 c74 c75 c76 c77 c78 c79 c80 c81 c82 c83 c84 c85 c86 c87 c88 c89 c90 c91 c92 c93 c94 c95 c96 c97 c98 c99 c100 c101 c102 c103 c104 c105 c106 c107 c108 c109 c110 c111 c112 c113 c114 c115 c116 c117 c118 c119 c120 c121 c122 c123 c124 c125 c126 c127 c128 c129 c130 c131 c132 c133 c134 c135 c136 c137 c138 c139 c140 c141 c142 c143 c144 c145 c146 c147 c148 c149 c150 c151 c152 c153 c154 c155 c156 c157 c158 c159 c160 c161 c162 c163 c164 c165 c166 c167 c168 c169 c170 c171 c172 c173 c174 c175 c176 c177 c178 c179 c180 c181 c182 c183 c184 c185 c186 c187 c188 c189 c190 c191 c192 c193 c194 c195 c196 c197 c198 c199 c200 c201 c202 c203 c204 c205 c206 c207 c208 c209 c210 c211 c212 c213 c214 c215 c216 c217 c218 c219 c220 c221 c222 c223 c224 c225 c226 c227 c228 c229 c230 c231 c232 c233 c234 c235 c236 c237 c238 c239 c240 c241 c242 c243 c244 c245 c246 c247 c248 c249 c250 c251 c252 c253 c254 c255 c256 c257 c258 c259 c260 c261 c262 c263 c264 c265 c266 c267 c268 c269 c270 c271 c272 c273 c274 c275 c276 c277 c278 c279 c280 c281 c282 c283 c284 c285 c286 c287 c288 c289 c290 c291 c292 c293 c294 c295 c296 c297 c298 c299 c300 c301 c302 c303 c304 c305 c306 c307 c308 c309 c310 c311 c312 c313 c314 c315 c316 c317 c318 c319 c320 c321 c322 c323 c324 c325 c326 c327 c328 c329 c330 c331 c332 c333 c334 c335 c336 c337 c338 c339 c340 c341 c342 c343 c344 c345 c346 c347 c348 c349 c350 c351 c352 c353 c354 c355 c356 c357 c358 c359 c360 c361 c362 c363 c364 c365 c366 c367 c368 c369 c370 c371 c372 c373 c374 c375 c376 c377 c378 c379 c380 c381 c382 c383 c384 c385 c386 c387 c388 c389 c390 c391 c392 c393 c394 c395 c396 c397 c398 c399 c400 c401 c402 c403 c404 c405 c406 c407 c408 c409 c410 c411 c412 c413 c414 c415 c416 c417 c418 c419 c420 c421 c422 c423 c424 c425 c426 c427 c428 c429 c430 c431 c432 c433 c434 c435 c436 : Value}
    (S3 : Set2 w.heap.size n (l + 1) mk n ia ic (ilOf mask) wr) (hr : wr.rowIs P 31 (2 * n + 1) (fun a => .float .f64 (prAt (2 * n + 1) a))) (hPb : w.heap.size + 6 ≤ P) (hin : ∀ j, j < n → ∀ b, ia j = some ⟨b, 0, none⟩ → ilOf mask j ≠ [] → b ≠ P) (hB3 : Below w.heap.size w wr) (zr : wr.heap.size = P + 1)
    (n1 : 1 ≤ n) (n2 : n ≤ 4) (hd : l ≤ 1024) (hpub : pub < l + 1) (mkl : ∀ i j, i < j → j < l + 1 → mk i < mk j) (hT : nT ≤ 1024)
    (tk : Tks w a4 nT tu wh pr) (bT : ∀ i, i < nT → 0 ≤ tu i ∧ tu i ≤ 65535) (bW : ∀ i, i < nT → 0 ≤ wh i ∧ wh i ≤ 255) :
    Code.wp Yba.prog ((Yba.f4.body.bind (dropTo 33)).getD .skip) (bodyPost Yba.prog Yba.f4 fun e w' => e = Ending.returned (Value.bool true) ∧ Below w.heap.size w w') ⟨#[c0, c1, c2, .int .u8 mask, .slice a4 nT c4s, c5, c6, c7, c8, c9, c10, .slice (some ⟨w.heap.size, 0, none⟩) 5 5, .int .i64 ((l : Int) + 1), .slice (some ⟨w.heap.size + 1, 0, none⟩) (l + 1) (l + 1), c14, .int .i64 (pub : Int), .int .i64 (n : Int), .map (some (w.heap.size + 2)), .slice (some ⟨w.heap.size + 2 + 1, 0, none⟩) n n, .slice (some ⟨w.heap.size + 2 + 1 + 1, 0, none⟩) n n, .slice (some ⟨w.heap.size + 2 + 1 + 1 + 1, 0, none⟩) 2 2, c21, .slice (some ⟨P, 0, none⟩) (2 * n + 1) (2 * n + 1), c23, c24, c25, c26, c27, c28, c29, c30, c31, c32, c33, c34, c35, c36, c37, c38, c39, c40, c41, c42, c43, c44, c45, c46, c47, c48, c49, c50, c51, c52, c53, c54, c55, c56, c57, c58, c59, c60, c61, c62, c63, c64, c65, c66, c67, c68, c69, c70, c71, c72, c73, c74, c75, c76, c77, c78, c79, c80, c81, c82, c83, c84, c85, c86, c87, c88, c89, c90, c91, c92, c93, c94, c95, c96, c97, c98, c99, c100, c101, c102, c103, c104, c105, c106, c107, c108, c109, c110, c111, c112, c113, c114, c115, c116, c117, c118, c119, c120, c121, c122, c123, c124, c125, c126, c127, c128, c129, c130, c131, c132, c133, c134, c135, c136, c137, c138, c139, c140, c141, c142, c143, c144, c145, c146, c147, c148, c149, c150, c151, c152, c153, c154, c155, c156, c157, c158, c159, c160, c161, c162, c163, c164, c165, c166, c167, c168, c169, c170, c171, c172, c173, c174, c175, c176, c177, c178, c179, c180, c181, c182, c183, c184, c185, c186, c187, c188, c189, c190, c191, c192, c193, c194, c195, c196, c197, c198, c199, c200, c201, c202, c203, c204, c205, c206, c207, c208, c209, c210, c211, c212, c213, c214, c215, c216, c217, c218, c219, c220, c221, c222, c223, c224, c225, c226, c227, c228, c229, c230, c231, c232, c233, c234, c235, c236, c237, c238, c239, c240, c241, c242, c243, c244, c245, c246, c247, c248, c249, c250, c251, c252, c253, c254, c255, c256, c257, c258, c259, c260, c261, c262, c263, c264, c265, c266, c267, c268, c269, c270, c271, c272, c273, c274, c275, c276, c277, c278, c279, c280, c281, c282, c283, c284, c285, c286, c287, c288, c289, c290, c291, c292, c293, c294, c295, c296, c297, c298, c299, c300, c301, c302, c303, c304, c305, c306, c307, c308, c309, c310, c311, c312, c313, c314, c315, c316, c317, c318, c319, c320, c321, c322, c323, c324, c325, c326, c327, c328, c329, c330, c331, c332, c333, c334, c335, c336, c337, c338, c339, c340, c341, c342, c343, c344, c345, c346, c347, c348, c349, c350, c351, c352, c353, c354, c355, c356, c357, c358, c359, c360, c361, c362, c363, c364, c365, c366, c367, c368, c369, c370, c371, c372, c373, c374, c375, c376, c377, c378, c379, c380, c381, c382, c383, c384, c385, c386, c387, c388, c389, c390, c391, c392, c393, c394, c395, c396, c397, c398, c399, c400, c401, c402, c403, c404, c405, c406, c407, c408, c409, c410, c411, c412, c413, c414, c415, c416, c417, c418, c419, c420, c421, c422, c423, c424, c425, c426, c427, c428, c429, c430, c431, c432, c433, c434, c435, c436], []⟩ wr := by
  have em' : ((l + 1 : Nat) : Int) = (l : Int) + 1 := by omega
  have hmkH := run_make_row' (P := Yba.prog) 42 4 (.bool false) 1 Yba.underlying42 info4 rfl .i64 .i64 n (by omega) (by omega)
  have hmkA := run_make_row' (P := Yba.prog) 36 37 (.int .i64 0) 8 Yba.underlying36 info37 rfl .i64 .i64 n (by omega) (by omega)
  have hmkL := run_make_row' (P := Yba.prog) 43 57 (.slice none 0 0) 24 Yba.underlying43 info57 rfl .i64 .i64 (l + 1) (by omega) (by omega)
  rw [em'] at hmkL
  have FIN := fun (W : World) (gH gA gL gS : Nat) (z0 z1 z2 z3 z12 z15 z16 : Value) (hbw : Below wr.heap.size wr W) h1 h2 h3 h4 (g1 : wr.heap.size ≤ gH) (g2 : wr.heap.size ≤ gA) (g3 : wr.heap.size ≤ gL) (g4 : wr.heap.size ≤ gS) q1 q2 q3 q4 q5 q6 =>
    sess_start (B := w.heap.size) (n := n) (m := l + 1) (mk := mk) (pub := pub) (il := ilOf mask) (ia := ia) (ic := ic) (w := w) (wr := wr) (W := W) (P := P) (gH := gH) (gA := gA) (gL := gL) (gS := gS) (z0 := z0) (z1 := z1) (z2 := z2) (z3 := z3) (z12 := z12) (z15 := z15) (z16 := z16) S3 hr hPb hin hbw hB3 h1 h2 h3 h4 g1 g2 g3 g4 ⟨n1, n2⟩ (by omega) hpub mkl (fun a _ => il_two mask a) q1 q2 q3 q4 q5 q6
  clear S3 hin hB3 hr
  conv => arg 2; whnf
  refine wp_seq_k (fun K hK => ?_)
  have HK : Hid (∀ a w', Code.wp Yba.prog ((Yba.f4.body.bind (dropTo 34)).getD .skip) (bodyPost Yba.prog Yba.f4 fun e w' => e = Ending.returned (Value.bool true) ∧ Below w.heap.size w w') a w' → K a w') := hK
  clear hK
  dsimp only
  go_cut [24] from 167 to 181 (fun v wx => Ready w.heap.size n (l + 1) mk pub (ilOf mask) w v wx)
  case first =>
    clear HK
    go_region
    all_goals
      go_wp2
      go_meet
      case rel =>
        first
          | exact FIN _ _ _ _ _ _ _ _ _ _ _ _ (four wr _ zr _ _ _ _).2.2.2.2.2 (four wr _ zr _ _ _ _).1 (four wr _ zr _ _ _ _).2.1 (four wr _ zr _ _ _ _).2.2.1 (four wr _ zr _ _ _ _).2.2.2.1 (by omega) (by omega) (by omega) (by omega) (by omega) (by omega) (by omega) (by omega) (by omega) (by omega)
          | exact FIN _ _ _ _ _ _ _ _ _ _ _ _ (four wr _ zr _ _ _ _).2.2.2.2.2 (four wr _ zr _ _ _ _).1 (four wr _ zr _ _ _ _).2.2.1 (four wr _ zr _ _ _ _).2.1 (four wr _ zr _ _ _ _).2.2.2.1 (by omega) (by omega) (by omega) (by omega) (by omega) (by omega) (by omega) (by omega) (by omega) (by omega)
          | exact FIN _ _ _ _ _ _ _ _ _ _ _ _ (four wr _ zr _ _ _ _).2.2.2.2.2 (four wr _ zr _ _ _ _).2.1 (four wr _ zr _ _ _ _).1 (four wr _ zr _ _ _ _).2.2.1 (four wr _ zr _ _ _ _).2.2.2.1 (by omega) (by omega) (by omega) (by omega) (by omega) (by omega) (by omega) (by omega) (by omega) (by omega)
          | exact FIN _ _ _ _ _ _ _ _ _ _ _ _ (four wr _ zr _ _ _ _).2.2.2.2.2 (four wr _ zr _ _ _ _).2.1 (four wr _ zr _ _ _ _).2.2.1 (four wr _ zr _ _ _ _).1 (four wr _ zr _ _ _ _).2.2.2.1 (by omega) (by omega) (by omega) (by omega) (by omega) (by omega) (by omega) (by omega) (by omega) (by omega)
          | exact FIN _ _ _ _ _ _ _ _ _ _ _ _ (four wr _ zr _ _ _ _).2.2.2.2.2 (four wr _ zr _ _ _ _).2.2.1 (four wr _ zr _ _ _ _).1 (four wr _ zr _ _ _ _).2.1 (four wr _ zr _ _ _ _).2.2.2.1 (by omega) (by omega) (by omega) (by omega) (by omega) (by omega) (by omega) (by omega) (by omega) (by omega)
          | exact FIN _ _ _ _ _ _ _ _ _ _ _ _ (four wr _ zr _ _ _ _).2.2.2.2.2 (four wr _ zr _ _ _ _).2.2.1 (four wr _ zr _ _ _ _).2.1 (four wr _ zr _ _ _ _).1 (four wr _ zr _ _ _ _).2.2.2.1 (by omega) (by omega) (by omega) (by omega) (by omega) (by omega) (by omega) (by omega) (by omega) (by omega)
  case rest =>
    obtain ⟨x, N, ia', ic', rfl, F0, V0, L0, eM, eC, ltB, neB, rI0, B0⟩ := hcut
    have L1 : Lo (w.heap.size + 1) x N := by
      obtain ⟨a1, a2, a3, a4, a5, a6⟩ := L0
      obtain ⟨b1, b2, b3, b4, b5⟩ := neB
      exact ⟨by omega, by omega, by omega, by omega, by omega, by omega⟩
    clear neB ltB L0 FIN hmkH hmkA hmkL zr hPb
    obtain ⟨S', M', P', Q', C', H', A', I', U', L'⟩ := x
    simp only at eM eC
    subst eM eC
    exact HK.out _ _ (rest34 F0 V0 L1 rI0 B0 hT tk bT bW)

set_option maxRecDepth 100000 in
set_option maxHeartbeats 2000000 in
theorem rest27 {w wS : World} {n l : Nat} {mk : Nat → Int} {pub : Nat} {ia : Nat → Option Addr} {ic : Nat → Nat} {a4 : Option Addr} {nT c4s : Nat} {tu wh pr : Nat → Int} {mask : Int}
    {c0 c1 c2 c5 c6 c7 c8 c9 c10 c14 c21 c22 c23 c24 c25 c26 c27 c28 c29 c30 c31 c32 c33 c34 c35 c36 c37 c38 c39 c40 c41 c42 c43 c44 c45 c46 c47 c48 c49 c50 c51 c52 c53 c54 c55 c56 c57 c58 c59 c60 c61 c62 c63 c64 c65 c66 c67 c68 c69 c70 c71 c72 c73 c74 c75 c76 c77 c78 c79 c80 c81 c82 c83 c84 c85 c86 c87 c88 c89 c90 c91 c92 c93 c94 c95 c96 c97 c98 c99 c100 c101 c102 c103 c104 c105 c106 c107 c108 c109 c110 c111 c112 c113 c114 c115 c116 c117 c118 c119 c120 c121 c122 c123 c124 c125 c126 c127 c128 c129 c130 c131 c132 c133 c134 c135 c136 c137 c138 c139 c140 c141 c142 c143 c144 c145 c146 c147 c148 c149 c150 c151 c152 c153 c154 c155 c156 c157 c158 c159 c160 c161 c162 c163 c164 c165 c166 c167 c168 c169 c170 c171 c172 c173 c174 c175 c176 c177 c178 c179 c180 c181 c182 c183 c184 c185 c186 c187 c188 c189 c190 c191 c192 c193 c194 c195 c196 c197 c198 c199 c200 c201 c202 c203 c204 c205 c206 c207 c208 c209 c210 c211 c212 c213 c214 c215 c216 c217 c218 c219 c220 c221 c222 c223 c224 c225 c226 c227 c228 c229 c230 c231 c232 c233 c234 c235 c236 c237 c238 c239 c240 c241 c242 c243 c244 c245 c246 c247 c248 c249 c250 c251 c252 c253 c254 c255 c256 c257 c258 c259 c260 c261 c262 c263 c264 c265 c266 c267 c268 c269 c270 c271 c272 c273 c274 c275 c276 c277 c278 c279 c280 c281 c282 c283 c284 c285 c286 c287 c288 c289 c290 c291 c292 c293 c294 c295 c296 c297 c298 c299 c300 c301 c302 c303 c304 c305 c306 c307 c308 c309 c310 c311 c312 c313 c314 c315 c316 c317 c318 c319 c320 c321 c322 c323 c324 c325 c326 c327 c328 c329 c330 c331 c332 c333 c334 c335 c336 c337 c338 c339 c340 c341 c342 c343 c344 c345 c346 c347 c348 c349 c350 c351 c352 c353 c354 c355 c356 c357 c358 c359 c360 c361 c362 c363 c364 c365 c366 c367 c368 c369 c370 c371 c372 c373 c374 c375 c376 c377 c378 c379 c380 c381 c382 c383 c384 c385 c386 c387 c388 c389 c390 c391 c392 c393 c394 c395 c396 c397 c398 c399 c400 c401 c402 c403 c404 c405 c406 c407 c408 c409 c410 c411 c412 c413 c414 c415 c416 c417 c418 c419 c420 c421 c422 c423 c424 c425 c426 c427 c428 c429 c430 c431 c432 c433 c434 c435 c436 : Value}
    (hS : Set2 w.heap.size n (l + 1) mk n ia ic (ilOf mask) wS) (hb2 : Below w.heap.size w wS)
    (n1 : 1 ≤ n) (n2 : n ≤ 4) (hd : l ≤ 1024) (hpub : pub < l + 1) (mkl : ∀ i j, i < j → j < l + 1 → mk i < mk j) (hT : nT ≤ 1024)
    (tk : Tks w a4 nT tu wh pr) (bT : ∀ i, i < nT → 0 ≤ tu i ∧ tu i ≤ 65535) (bW : ∀ i, i < nT → 0 ≤ wh i ∧ wh i ≤ 255) :
    Code.wp Yba.prog ((Yba.f4.body.bind (dropTo 27)).getD .skip) (bodyPost Yba.prog Yba.f4 fun e w' => e = Ending.returned (Value.bool true) ∧ Below w.heap.size w w') ⟨#[c0, c1, c2, .int .u8 mask, .slice a4 nT c4s, c5, c6, c7, c8, c9, c10, .slice (some ⟨w.heap.size, 0, none⟩) 5 5, .int .i64 ((l : Int) + 1), .slice (some ⟨w.heap.size + 1, 0, none⟩) (l + 1) (l + 1), c14, .int .i64 (pub : Int), .int .i64 (n : Int), .map (some (w.heap.size + 2)), .slice (some ⟨w.heap.size + 2 + 1, 0, none⟩) n n, .slice (some ⟨w.heap.size + 2 + 1 + 1, 0, none⟩) n n, .slice (some ⟨w.heap.size + 2 + 1 + 1 + 1, 0, none⟩) 2 2, c21, c22, c23, c24, c25, c26, c27, c28, c29, c30, c31, c32, c33, c34, c35, c36, c37, c38, c39, c40, c41, c42, c43, c44, c45, c46, c47, c48, c49, c50, c51, c52, c53, c54, c55, c56, c57, c58, c59, c60, c61, c62, c63, c64, c65, c66, c67, c68, c69, c70, c71, c72, c73, c74, c75, c76, c77, c78, c79, c80, c81, c82, c83, c84, c85, c86, c87, c88, c89, c90, c91, c92, c93, c94, c95, c96, c97, c98, c99, c100, c101, c102, c103, c104, c105, c106, c107, c108, c109, c110, c111, c112, c113, c114, c115, c116, c117, c118, c119, c120, c121, c122, c123, c124, c125, c126, c127, c128, c129, c130, c131, c132, c133, c134, c135, c136, c137, c138, c139, c140, c141, c142, c143, c144, c145, c146, c147, c148, c149, c150, c151, c152, c153, c154, c155, c156, c157, c158, c159, c160, c161, c162, c163, c164, c165, c166, c167, c168, c169, c170, c171, c172, c173, c174, c175, c176, c177, c178, c179, c180, c181, c182, c183, c184, c185, c186, c187, c188, c189, c190, c191, c192, c193, c194, c195, c196, c197, c198, c199, c200, c201, c202, c203, c204, c205, c206, c207, c208, c209, c210, c211, c212, c213, c214, c215, c216, c217, c218, c219, c220, c221, c222, c223, c224, c225, c226, c227, c228, c229, c230, c231, c232, c233, c234, c235, c236, c237, c238, c239, c240, c241, c242, c243, c244, c245, c246, c247, c248, c249, c250, c251, c252, c253, c254, c255, c256, c257, c258, c259, c260, c261, c262, c263, c264, c265, c266, c267, c268, c269, c270, c271, c272, c273, c274, c275, c276, c277, c278, c279, c280, c281, c282, c283, c284, c285, c286, c287, c288, c289, c290, c291, c292, c293, c294, c295, c296, c297, c298, c299, c300, c301, c302, c303, c304, c305, c306, c307, c308, c309, c310, c311, c312, c313, c314, c315, c316, c317, c318, c319, c320, c321, c322, c323, c324, c325, c326, c327, c328, c329, c330, c331, c332, c333, c334, c335, c336, c337, c338, c339, c340, c341, c342, c343, c344, c345, c346, c347, c348, c349, c350, c351, c352, c353, c354, c355, c356, c357, c358, c359, c360, c361, c362, c363, c364, c365, c366, c367, c368, c369, c370, c371, c372, c373, c374, c375, c376, c377, c378, c379, c380, c381, c382, c383, c384, c385, c386, c387, c388, c389, c390, c391, c392, c393, c394, c395, c396, c397, c398, c399, c400, c401, c402, c403, c404, c405, c406, c407, c408, c409, c410, c411, c412, c413, c414, c415, c416, c417, c418, c419, c420, c421, c422, c423, c424, c425, c426, c427, c428, c429, c430, c431, c432, c433, c434, c435, c436], []⟩ wS := by
  have en : ((2 * n + 1 : Nat) : Int) = 2 * (n : Int) + 1 := by omega
  have hmkP := run_make_row' (P := Yba.prog) 22 31 (.float .f64 0) 8 Yba.underlying22 info31 rfl .i64 .i64 (2 * n + 1) (by omega) (by omega)
  rw [en] at hmkP
  conv => arg 2; whnf
  refine wp_seq_k (fun K0 hK => ?_)
  have HK0 : Hid (∀ a w', Code.wp Yba.prog ((Yba.f4.body.bind (dropTo 28)).getD .skip) (bodyPost Yba.prog Yba.f4 fun e w' => e = Ending.returned (Value.bool true) ∧ Below w.heap.size w w') a w' → K0 a w') := hK
  clear hK
  go_wp2
  refine HK0.out _ _ ?_
  clear HK0 hmkP
  conv => arg 2; whnf
  refine wp_seq_k (fun K hK => ?_)
  have HK : Hid (∀ a w', Code.wp Yba.prog ((Yba.f4.body.bind (dropTo 33)).getD .skip) (bodyPost Yba.prog Yba.f4 fun e w' => e = Ending.returned (Value.bool true) ∧ Below w.heap.size w w') a w' → K a w') := hK
  clear hK
  have rP := World.rowIs_made wS (.float .f64 0) (2 * n + 1) 31
  go_wp2
  go_loopw [23, 160] (fun _ i wx => ∃ j : Nat, j ≤ 2 * n + 1 ∧ i = .int .i64 j ∧ wx.rowIs wS.heap.size 31 (2 * n + 1) (fun a => .float .f64 (prAt j a)) ∧ Only wS.heap.size (wS.alloc (.cells (madeCells #[.float .f64 0] (2 * n + 1)) 31)) wx) (fun _ i _ => 2 * n + 1 - (intOf i).toNat)
  case atStart => exact ⟨0, Nat.zero_le _, rfl, rP.congr (fun a _ => by simp [prAt]), Only.refl _ _⟩
  case round =>
    obtain ⟨j, hj, rfl, hr, ho⟩ := hrel
    clear rP
    by_cases hlt : j < 2 * n + 1
    · have c1 := hr.cell hlt
      have f1 := hr.frozen j
      have R := prAt_set hr
      have O2 := ho.setCell j (.float .f64 13830554455654793216)
      clear hr ho
      go_wp2
      go_roundw
      case rel => exact ⟨j + 1, by omega, by go_num, R, O2⟩
      case measure => simp [intOf]; omega
    · obtain rfl : j = 2 * n + 1 := by omega
      have zr : wr.heap.size = wS.heap.size + 1 := by rw [ho.size]; simp
      have S3 := hS.below ((((Below.refl _ _).alloc (Nat.le_refl _) _).trans (ho.below (Nat.le_refl _))))
      have hin : ∀ j, j < n → ∀ b, ia j = some ⟨b, 0, none⟩ → ilOf mask j ≠ [] → b ≠ wS.heap.size := fun j hj b hb hne => by
        rcases hS.inr j hj with h0 | ⟨b', e1, e2, e3, _⟩
        · exact absurd h0 hne
        · rw [hb] at e1; simp at e1; omega
      have szS := hS.sz
      have hB3 : Below w.heap.size w wr := (hb2.alloc (by omega) _).trans (ho.below (by omega))
      go_wp2
      exact HK.out _ _ (rest33 S3 hr szS hin hB3 zr n1 n2 hd hpub mkl hT tk bT bW)
end Go.Proofs.Ybulkbhtk
