import Derived.Test.YbulkbhtkB10
namespace Go.Proofs.Ybulkbhtk
open Go.RowKit

theorem cnt_tt {mask : Int} {q : Nat} (cu : Nat → Int) (e : Nat) (he : e < 2) (h0 : (bits BinOp.and IntKind.u8 (mask / 2 ^ q) 1 == 1) = true) (h1 : (bits BinOp.and IntKind.u8 (mask / 2 ^ (q + 4)) 1 == 1) = true) :
    (if e = 1 then Value.int .i64 (cu 1 + 1) else if e = 0 then Value.int .i64 (cu 0 + 1) else Value.int .i64 (cu e)) = .int .i64 (cu e + if (e = 0 ∧ b0 mask q = true) ∨ (e = 1 ∧ b1 mask q = true) then 1 else 0) := by
  match e, he with
  | 0, _ => simp [b0, h0]
  | 1, _ => simp [b1, h1]
theorem cnt_tf {mask : Int} {q : Nat} (cu : Nat → Int) (e : Nat) (he : e < 2) (h0 : (bits BinOp.and IntKind.u8 (mask / 2 ^ q) 1 == 1) = true) (h1 : (bits BinOp.and IntKind.u8 (mask / 2 ^ (q + 4)) 1 == 1) = false) :
    (if e = 0 then Value.int .i64 (cu 0 + 1) else Value.int .i64 (cu e)) = .int .i64 (cu e + if (e = 0 ∧ b0 mask q = true) ∨ (e = 1 ∧ b1 mask q = true) then 1 else 0) := by
  match e, he with
  | 0, _ => simp [b0, h0]
  | 1, _ => simp [b1, h1]
theorem cnt_ft {mask : Int} {q : Nat} (cu : Nat → Int) (e : Nat) (he : e < 2) (h0 : (bits BinOp.and IntKind.u8 (mask / 2 ^ q) 1 == 1) = false) (h1 : (bits BinOp.and IntKind.u8 (mask / 2 ^ (q + 4)) 1 == 1) = true) :
    (if e = 1 then Value.int .i64 (cu 1 + 1) else Value.int .i64 (cu e)) = .int .i64 (cu e + if (e = 0 ∧ b0 mask q = true) ∨ (e = 1 ∧ b1 mask q = true) then 1 else 0) := by
  match e, he with
  | 0, _ => simp [b0, h0]
  | 1, _ => simp [b1, h1]
theorem cnt_ff {mask : Int} {q : Nat} (cu : Nat → Int) (e : Nat) (he : e < 2) (h0 : (bits BinOp.and IntKind.u8 (mask / 2 ^ q) 1 == 1) = false) (h1 : (bits BinOp.and IntKind.u8 (mask / 2 ^ (q + 4)) 1 == 1) = false) :
    Value.int .i64 (cu e) = .int .i64 (cu e + if (e = 0 ∧ b0 mask q = true) ∨ (e = 1 ∧ b1 mask q = true) then 1 else 0) := by
  match e, he with
  | 0, _ => simp [b0, h0]
  | 1, _ => simp [b1, h1]

set_option maxRecDepth 100000 in
set_option maxHeartbeats 2000000 in
theorem rest56 {w w1  : World} {x : Ids} {N n l : Nat} {mk : Nat → Int} {pub : Nat} {ia : Nat → Option Addr} {ic : Nat → Nat} {s : St} {a4 : Option Addr} {nT c4s : Nat} {tu wh pr : Nat → Int} {mask : Int} {E : Nat}
    {c0 c1 c2 c5 c6 c7 c8 c9 c10 c11 c14 c15 c17 c18 c19 c20 c21 c22 c23 c25 c26 c29 c30 c31 c32 c33 c34 c35 c36 c37 c38 c39 c40 c41 c42 c43 c44 c45 c46 c47 c48 c49 c50 c51 c52 c53 c54 c55 c56 c57 c58 c59 c60 c61 c62 c63 c64 c65 c66 c67 c68 c69 c70 c71 c72 c73 c74 c75 c76 c77 c78 c79 c80 c81 c82 c83 c84 c85 c86 c87 c88 c89 c90 c91 c92 c93 c94 c95 c96 c97 c98 c99 c100 c101 c102 c103 c104 c105 c106 c107 c108 c109 c110 c111 c112 c113 c114 c115 c116 c117 c118 c119 c120 c121 c122 c123 c124 c125 c126 c127 c128 c129 c130 c131 c132 c133 c134 c135 c136 c137 c138 c139 c140 c141 c142 c143 c144 c145 c146 c147 c148 c149 c150 c151 c152 c153 c154 c155 c156 c157 c158 c159 c160 c161 c162 c163 c164 c165 c166 c167 c168 c169 c170 c171 c172 c173 c174 c175 c176 c177 c178 c179 c180 c181 c182 c183 c184 c185 c186 c187 c188 c189 c190 c191 c192 c193 c194 c195 c196 c197 c198 c199 c200 c201 c202 c203 c204 c205 c206 c207 c208 c209 c210 c211 c212 c213 c214 c215 c216 c217 c218 c219 c220 c221 c222 c223 c224 c225 c226 c227 c228 c229 c230 c231 c232 c233 c234 c235 c236 c237 c238 c239 c240 c241 c242 c243 c244 c245 c246 c247 c248 c249 c250 c251 c252 c253 c254 c255 c256 c257 c258 c259 c260 c261 c262 c263 c264 c265 c266 c267 c268 c269 c270 c271 c272 c273 c274 c275 c276 c277 c278 c279 c280 c281 c282 c283 c284 c285 c286 c287 c288 c289 c290 c291 c292 c293 c294 c295 c296 c297 c298 c299 c300 c301 c302 c303 c304 c305 c306 c307 c308 c309 c310 c311 c312 c313 c314 c315 c316 c317 c318 c319 c320 c321 c322 c323 c324 c325 c326 c327 c328 c329 c330 c331 c332 c333 c334 c335 c336 c337 c338 c339 c340 c341 c342 c343 c344 c345 c346 c347 c348 c349 c350 c351 c352 c353 c354 c355 c356 c357 c358 c359 c360 c361 c362 c363 c364 c365 c366 c367 c368 c369 c370 c371 c372 c373 c374 c375 c376 c377 c378 c379 c380 c381 c382 c383 c384 c385 c386 c387 c388 c389 c390 c391 c392 c393 c394 c395 c396 c397 c398 c399 c400 c401 c402 c403 c404 c405 c406 c407 c408 c409 c410 c411 c412 c413 c414 c415 c416 c417 c418 c419 c420 c421 c422 c423 c424 c425 c426 c427 c428 c429 c430 c431 c432 c433 c434 c435 c436 : Value}
    (hF : Fix x N n (l + 1) mk pub ia ic (ilOf mask) w1) (hV : Var x N n (l + 1) s w1) (hI : Inv (fun i => tu i - 100) wh (fun i => floatOfInt .f64 (pr i)) n (l + 1) mk pub (ilOf mask) nT s) (hB : Below w.heap.size w w1) (hT : nT ≤ 1024)
    (tk : Tks w a4 nT tu wh pr) (bT : ∀ i, i < nT → 0 ≤ tu i ∧ tu i ≤ 65535) (bW : ∀ i, i < nT → 0 ≤ wh i ∧ wh i ≤ 255) (hE : w1.rowIs E 3 2 (fun e => .int .i64 (s.un e))) :
    Code.wp Yba.prog ((Yba.f4.body.bind (dropTo 56)).getD .skip) (bodyPost Yba.prog Yba.f4 fun e w' => e = Ending.returned (Value.bool true) ∧ Below w.heap.size w w') ⟨#[c0, c1, c2, .int .u8 mask, .slice a4 nT c4s, c5, c6, c7, c8, c9, c10, c11, .int .i64 ((l : Int) + 1), .slice (some ⟨x.M, 0, none⟩) (l + 1) (l + 1), c14, c15, .int .i64 (n : Int), c17, c18, c19, c20, c21, c22, c23, .pointer (some ⟨x.S, 0, none⟩), c25, c26, .int .i64 (mk pub), .slice (some ⟨E, 0, none⟩) 2 2, c29, c30, c31, c32, c33, c34, c35, c36, c37, c38, c39, c40, c41, c42, c43, c44, c45, c46, c47, c48, c49, c50, c51, c52, c53, c54, c55, c56, c57, c58, c59, c60, c61, c62, c63, c64, c65, c66, c67, c68, c69, c70, c71, c72, c73, c74, c75, c76, c77, c78, c79, c80, c81, c82, c83, c84, c85, c86, c87, c88, c89, c90, c91, c92, c93, c94, c95, c96, c97, c98, c99, c100, c101, c102, c103, c104, c105, c106, c107, c108, c109, c110, c111, c112, c113, c114, c115, c116, c117, c118, c119, c120, c121, c122, c123, c124, c125, c126, c127, c128, c129, c130, c131, c132, c133, c134, c135, c136, c137, c138, c139, c140, c141, c142, c143, c144, c145, c146, c147, c148, c149, c150, c151, c152, c153, c154, c155, c156, c157, c158, c159, c160, c161, c162, c163, c164, c165, c166, c167, c168, c169, c170, c171, c172, c173, c174, c175, c176, c177, c178, c179, c180, c181, c182, c183, c184, c185, c186, c187, c188, c189, c190, c191, c192, c193, c194, c195, c196, c197, c198, c199, c200, c201, c202, c203, c204, c205, c206, c207, c208, c209, c210, c211, c212, c213, c214, c215, c216, c217, c218, c219, c220, c221, c222, c223, c224, c225, c226, c227, c228, c229, c230, c231, c232, c233, c234, c235, c236, c237, c238, c239, c240, c241, c242, c243, c244, c245, c246, c247, c248, c249, c250, c251, c252, c253, c254, c255, c256, c257, c258, c259, c260, c261, c262, c263, c264, c265, c266, c267, c268, c269, c270, c271, c272, c273, c274, c275, c276, c277, c278, c279, c280, c281, c282, c283, c284, c285, c286, c287, c288, c289, c290, c291, c292, c293, c294, c295, c296, c297, c298, c299, c300, c301, c302, c303, c304, c305, c306, c307, c308, c309, c310, c311, c312, c313, c314, c315, c316, c317, c318, c319, c320, c321, c322, c323, c324, c325, c326, c327, c328, c329, c330, c331, c332, c333, c334, c335, c336, c337, c338, c339, c340, c341, c342, c343, c344, c345, c346, c347, c348, c349, c350, c351, c352, c353, c354, c355, c356, c357, c358, c359, c360, c361, c362, c363, c364, c365, c366, c367, c368, c369, c370, c371, c372, c373, c374, c375, c376, c377, c378, c379, c380, c381, c382, c383, c384, c385, c386, c387, c388, c389, c390, c391, c392, c393, c394, c395, c396, c397, c398, c399, c400, c401, c402, c403, c404, c405, c406, c407, c408, c409, c410, c411, c412, c413, c414, c415, c416, c417, c418, c419, c420, c421, c422, c423, c424, c425, c426, c427, c428, c429, c430, c431, c432, c433, c434, c435, c436], []⟩ w1 := by
  obtain ⟨n1, n2⟩ := hF.nn
  have s13 := hF.s13
  have u0 := hV.uns.cell (show 0 < 2 by omega)
  have u1 := hV.uns.cell (show 1 < 2 by omega)
  have e0 := hE.cell (show 0 < 2 by omega)
  have e1 := hE.cell (show 1 < 2 by omega)
  conv => arg 2; whnf
  refine wp_seq_k (fun K hK => ?_)
  have HK : Hid (∀ a w', Code.wp Yba.prog ((Yba.f4.body.bind (dropTo 58)).getD .skip) (bodyPost Yba.prog Yba.f4 fun e w' => e = Ending.returned (Value.bool true) ∧ Below w.heap.size w w') a w' → K a w') := hK
  clear hK
  go_upto_region 56 with fail
  go_quiet (fail)
  go_wp2
  exact HK.out _ _ (rest58 (hF.below ⟨rfl, rfl, rfl, Nat.le_refl _, fun _ _ => rfl⟩ hF.sz) (hV.below ⟨rfl, rfl, rfl, Nat.le_refl _, fun _ _ => rfl⟩) hI (hB.trans ⟨rfl, rfl, rfl, Nat.le_refl _, fun _ _ => rfl⟩) hT tk bT bW)

set_option maxRecDepth 100000 in
set_option maxHeartbeats 2000000 in
theorem rest41 {w w1 wx : World} {x : Ids} {N n l : Nat} {mk : Nat → Int} {pub : Nat} {ia : Nat → Option Addr} {ic : Nat → Nat} {s : St} {a4 : Option Addr} {nT c4s : Nat} {tu wh pr : Nat → Int} {mask : Int} 
    {c0 c1 c2 c5 c6 c7 c8 c9 c10 c11 c14 c15 c17 c19 c20 c21 c22 c23 c25 c26 c29 c30 c31 c32 c33 c34 c35 c36 c37 c38 c39 c40 c41 c42 c43 c44 c45 c46 c47 c48 c49 c50 c51 c52 c53 c54 c55 c56 c57 c58 c59 c60 c61 c62 c63 c64 c65 c66 c67 c68 c69 c70 c71 c72 c73 c74 c75 c76 c77 c78 c79 c80 c81 c82 c83 c84 c85 c86 c87 c88 c89 c90 c91 c92 c93 c94 c95 c96 c97 c98 c99 c100 c101 c102 c103 c104 c105 c106 c107 c108 c109 c110 c111 c112 c113 c114 c115 c116 c117 c118 c119 c120 c121 c122 c123 c124 c125 c126 c127 c128 c129 c130 c131 c132 c133 c134 c135 c136 c137 c138 c139 c140 c141 c142 c143 c144 c145 c146 c147 c148 c149 c150 c151 c152 c153 c154 c155 c156 c157 c158 c159 c160 c161 c162 c163 c164 c165 c166 c167 c168 c169 c170 c171 c172 c173 c174 c175 c176 c177 c178 c179 c180 c181 c182 c183 c184 c185 c186 c187 c188 c189 c190 c191 c192 c193 c194 c195 c196 c197 c198 c199 c200 c201 c202 c203 c204 c205 c206 c207 c208 c209 c210 c211 c212 c213 c214 c215 c216 c217 c218 c219 c220 c221 c222 c223 c224 c225 c226 c227 c228 c229 c230 c231 c232 c233 c234 c235 c236 c237 c238 c239 c240 c241 c242 c243 c244 c245 c246 c247 c248 c249 c250 c251 c252 c253 c254 c255 c256 c257 c258 c259 c260 c261 c262 c263 c264 c265 c266 c267 c268 c269 c270 c271 c272 c273 c274 c275 c276 c277 c278 c279 c280 c281 c282 c283 c284 c285 c286 c287 c288 c289 c290 c291 c292 c293 c294 c295 c296 c297 c298 c299 c300 c301 c302 c303 c304 c305 c306 c307 c308 c309 c310 c311 c312 c313 c314 c315 c316 c317 c318 c319 c320 c321 c322 c323 c324 c325 c326 c327 c328 c329 c330 c331 c332 c333 c334 c335 c336 c337 c338 c339 c340 c341 c342 c343 c344 c345 c346 c347 c348 c349 c350 c351 c352 c353 c354 c355 c356 c357 c358 c359 c360 c361 c362 c363 c364 c365 c366 c367 c368 c369 c370 c371 c372 c373 c374 c375 c376 c377 c378 c379 c380 c381 c382 c383 c384 c385 c386 c387 c388 c389 c390 c391 c392 c393 c394 c395 c396 c397 c398 c399 c400 c401 c402 c403 c404 c405 c406 c407 c408 c409 c410 c411 c412 c413 c414 c415 c416 c417 c418 c419 c420 c421 c422 c423 c424 c425 c426 c427 c428 c429 c430 c431 c432 c433 c434 c435 c436 : Value}
    (hF : Fix x N n (l + 1) mk pub ia ic (ilOf mask) w1) (hV : Var x N n (l + 1) s w1) (hI : Inv (fun i => tu i - 100) wh (fun i => floatOfInt .f64 (pr i)) n (l + 1) mk pub (ilOf mask) nT s) (hB : Below w.heap.size w w1) (hT : nT ≤ 1024)
    (tk : Tks w a4 nT tu wh pr) (bT : ∀ i, i < nT → 0 ≤ tu i ∧ tu i ≤ 65535) (bW : ∀ i, i < nT → 0 ≤ wh i ∧ wh i ≤ 255) (B1 : Below w1.heap.size w1 wx) (hE : wx.rowIs w1.heap.size 3 2 (fun _ => .int .i64 0)) :
    Code.wp Yba.prog ((Yba.f4.body.bind (dropTo 41)).getD .skip) (bodyPost Yba.prog Yba.f4 fun e w' => e = Ending.returned (Value.bool true) ∧ Below w.heap.size w w') ⟨#[c0, c1, c2, .int .u8 mask, .slice a4 nT c4s, c5, c6, c7, c8, c9, c10, c11, .int .i64 ((l : Int) + 1), .slice (some ⟨x.M, 0, none⟩) (l + 1) (l + 1), c14, c15, .int .i64 (n : Int), c17, .slice (some ⟨x.C, 0, none⟩) n n, c19, c20, c21, c22, c23, .pointer (some ⟨x.S, 0, none⟩), c25, c26, .int .i64 (mk pub), .slice (some ⟨w1.heap.size, 0, none⟩) 2 2, c29, c30, c31, c32, c33, c34, c35, c36, c37, c38, c39, c40, c41, c42, c43, c44, c45, c46, c47, c48, c49, c50, c51, c52, c53, c54, c55, c56, c57, c58, c59, c60, c61, c62, c63, c64, c65, c66, c67, c68, c69, c70, c71, c72, c73, c74, c75, c76, c77, c78, c79, c80, c81, c82, c83, c84, c85, c86, c87, c88, c89, c90, c91, c92, c93, c94, c95, c96, c97, c98, c99, c100, c101, c102, c103, c104, c105, c106, c107, c108, c109, c110, c111, c112, c113, c114, c115, c116, c117, c118, c119, c120, c121, c122, c123, c124, c125, c126, c127, c128, c129, c130, c131, c132, c133, c134, c135, c136, c137, c138, c139, c140, c141, c142, c143, c144, c145, c146, c147, c148, c149, c150, c151, c152, c153, c154, c155, c156, c157, c158, c159, c160, c161, c162, c163, c164, c165, c166, c167, c168, c169, c170, c171, c172, c173, c174, c175, c176, c177, c178, c179, c180, c181, c182, c183, c184, c185, c186, c187, c188, c189, c190, c191, c192, c193, c194, c195, c196, c197, c198, c199, c200, c201, c202, c203, c204, c205, c206, c207, c208, c209, c210, c211, c212, c213, c214, c215, c216, c217, c218, c219, c220, c221, c222, c223, c224, c225, c226, c227, c228, c229, c230, c231, c232, c233, c234, c235, c236, c237, c238, c239, c240, c241, c242, c243, c244, c245, c246, c247, c248, c249, c250, c251, c252, c253, c254, c255, c256, c257, c258, c259, c260, c261, c262, c263, c264, c265, c266, c267, c268, c269, c270, c271, c272, c273, c274, c275, c276, c277, c278, c279, c280, c281, c282, c283, c284, c285, c286, c287, c288, c289, c290, c291, c292, c293, c294, c295, c296, c297, c298, c299, c300, c301, c302, c303, c304, c305, c306, c307, c308, c309, c310, c311, c312, c313, c314, c315, c316, c317, c318, c319, c320, c321, c322, c323, c324, c325, c326, c327, c328, c329, c330, c331, c332, c333, c334, c335, c336, c337, c338, c339, c340, c341, c342, c343, c344, c345, c346, c347, c348, c349, c350, c351, c352, c353, c354, c355, c356, c357, c358, c359, c360, c361, c362, c363, c364, c365, c366, c367, c368, c369, c370, c371, c372, c373, c374, c375, c376, c377, c378, c379, c380, c381, c382, c383, c384, c385, c386, c387, c388, c389, c390, c391, c392, c393, c394, c395, c396, c397, c398, c399, c400, c401, c402, c403, c404, c405, c406, c407, c408, c409, c410, c411, c412, c413, c414, c415, c416, c417, c418, c419, c420, c421, c422, c423, c424, c425, c426, c427, c428, c429, c430, c431, c432, c433, c434, c435, c436], []⟩ wx := by
  obtain ⟨n1, n2⟩ := hF.nn
  have hBw : w.heap.size ≤ w1.heap.size := hB.size
  obtain ⟨bst, hbst⟩ : ∃ bst : Nat → Bool × Int × Nat, bst = fun (q : Nat) => best (fun i => tu i - 100) wh (fun i => floatOfInt .f64 (pr i)) (q : Int) false 0 (mk pub) nT := ⟨_, rfl⟩
  have BC : ∀ (q : Nat) (W : World), Below w.heap.size w W → Calls Yba.prog 9 #[.slice a4 nT c4s, .int .i64 (q : Int), .bool false, .int .i64 0, .int .i64 (mk pub)] W fun e w' => e = .returned (.tuple #[.bool (bst q).1, .int .i64 (bst q).2.1, .float .f64 (bst q).2.2]) ∧ Below W.heap.size W w' := fun q W hW => by
    rw [hbst]; exact best_any a4 nT c4s tu wh pr q false 0 (mk pub) W hT (tk.below (Nat.le_refl _) hW) bT bW
  have HI : Hid (∀ q, q < n → s.ht q = (bst q).1 ∧ s.ta q = (bst q).2.1 ∧ s.pr (2 * q + 1) = if (bst q).1 = true then (bst q).2.2 else M1) := by rw [hbst]; exact fun q hq => hI.now q hq
  have HPS : Hid (∀ q, FloatKind.f64.format.order (bst q).2.2 (bst q).2.2 = some .eq) := by rw [hbst]; exact fun q => best_pself (fun i => floatOfInt_self (pr i)) nT
  have HZ : Hid (∀ q, (bst q).1 = false → (bst q).2.1 = 0 ∧ (bst q).2.2 = 0) := by rw [hbst]; exact fun q hq => best_zero hq
  clear hbst
  conv => arg 2; whnf
  refine wp_seq_k (fun K hK => ?_)
  have HK : Hid (∀ a w', Code.wp Yba.prog ((Yba.f4.body.bind (dropTo 56)).getD .skip) (bodyPost Yba.prog Yba.f4 fun e w' => e = Ending.returned (Value.bool true) ∧ Below w.heap.size w w') a w' → K a w') := hK
  clear hK
  go_wp2
  go_loopg [29, 30, 31, 32] n (fun gk i _ _ _ wy => ∃ q : Nat, q ≤ n ∧ gk = n - q ∧ i = .int .i64 (q : Int) ∧ Below w1.heap.size w1 wy ∧ wy.rowIs w1.heap.size 3 2 (fun e => .int .i64 (cntU e (ilOf mask) s.ht q)))
  case atStart => exact ⟨0, Nat.zero_le _, rfl, rfl, B1, hE.congr (fun e _ => rfl)⟩
  case round =>
    obtain ⟨q, hq, hgq, rfl, By, hEy⟩ := hrel
    have HGQ : Hid (gk = n - q) := hgq
    clear hgq B1 hE
    by_cases hqn : q < n
    · have BCq := BC q wr (hB.trans (By.mono hBw))
      have szy := By.size
      have hps := HPS.out q
      have hi := HI.out q hqn
      have ltE := hEy.lt
      clear BC
      rcases Bool.eq_false_or_eq_true (bst q).1 with hf | hf
      · go_upto_region 45 with (go_at_call 9; refine BCq.mono ?_; rintro e w2 ⟨rfl, Bq⟩)
        have B2 : Below w1.heap.size w1 w2 := By.trans (Bq.mono szy)
        have F2 := hF.below B2 hF.sz
        have V2 := hV.below B2
        have hE2 := hEy.of_block (Bq.block _ ltE)
        have s9 := F2.s9
        have s10 := F2.s10
        have s6 := F2.s6
        have ch := V2.hts.cell hqn
        have ca := V2.ats.cell hqn
        have cc := F2.col.cell hqn
        have cp := V2.prs.cell (show 2 * q + 1 < 2 * n + 1 by omega)
        rw [hi.1, hf] at ch
        rw [hi.2.1] at ca
        rw [hi.2.2, if_pos hf] at cp
        have HE3 : Hid (∀ e, cntU e (ilOf mask) s.ht (q + 1) = cntU e (ilOf mask) s.ht q) := fun e => by simp only [cntU]; rw [hi.1, hf]; simp
        clear F2 V2 BCq Bq By hEy szy hi
        go_upto_region 48 with fail
        go_quiet (fail)
        go_wp2
        go_roundg (n - (q + 1))
        case measure => have := HGQ.out; omega
        case rel => exact ⟨q + 1, by omega, rfl, by go_num, ⟨B2.os, B2.tape, B2.output, B2.size, B2.block⟩, hE2.congr (fun e _ => by rw [HE3.out e])⟩
      · go_upto_region 45 with (go_at_call 9; refine BCq.mono ?_; rintro e w2 ⟨rfl, Bq⟩)
        have B2 : Below w1.heap.size w1 w2 := By.trans (Bq.mono szy)
        have F2 := hF.below B2 hF.sz
        have V2 := hV.below B2
        have hE2 := hEy.of_block (Bq.block _ ltE)
        have s9 := F2.s9
        have s10 := F2.s10
        have s6 := F2.s6
        have ch := V2.hts.cell hqn
        have ca := V2.ats.cell hqn
        have cc := F2.col.cell hqn
        have cp := V2.prs.cell (show 2 * q + 1 < 2 * n + 1 by omega)
        rw [hi.1, hf] at ch
        rw [hi.2.1, (HZ.out q hf).1] at ca
        rw [hi.2.2, if_neg (by rw [hf]; simp)] at cp
        simp only [M1] at cp
        have hm1 := minus1_self
        have HE3 : Hid (∀ e, cntU e (ilOf mask) s.ht (q + 1) = cntU e (ilOf mask) s.ht q + if (e = 0 ∧ b0 mask q = true) ∨ (e = 1 ∧ b1 mask q = true) then 1 else 0) := fun e => by simp only [cntU, mem_ilOf]; rw [hi.1, hf]; simp
        clear F2 V2 BCq Bq By hEy szy hi
        go_upto_region 50 with fail
        go_quiet (fail)
        go_upto_if 286 with fail
        have B3 : Below w1.heap.size w1 (w2.drewN nq) := ⟨B2.os, B2.tape, B2.output, B2.size, B2.block⟩
        have hE3 : (w2.drewN nq).rowIs w1.heap.size 3 2 (fun e => .int .i64 (cntU e (ilOf mask) s.ht q)) := hE2
        generalize w2.drewN nq = W3 at B3 hE3 ⊢
        clear B2 hE2 s9 s10 s6 ch ca cc cp hm1 hps
        obtain ⟨cu, hcu⟩ : ∃ cu : Nat → Int, cu = fun e => cntU e (ilOf mask) s.ht q := ⟨_, rfl⟩
        have bu : ∀ e, 0 ≤ cu e ∧ cu e ≤ 4 := fun e => by have := cntU_le e (ilOf mask) s.ht q; rw [hcu]; dsimp only; omega
        have b00 := bu 0
        have b11 := bu 1
        have hE4 : W3.rowIs w1.heap.size 3 2 (fun e => .int .i64 (cu e)) := by rw [hcu]; exact hE3
        have HE4 : Hid (∀ e, cntU e (ilOf mask) s.ht (q + 1) = cu e + if (e = 0 ∧ b0 mask q = true) ∨ (e = 1 ∧ b1 mask q = true) then 1 else 0) := by rw [hcu]; exact HE3.out
        clear hE3 HE3 hcu bu
        have x0 := hE4.cell (show 0 < 2 by omega)
        have x1 := hE4.cell (show 1 < 2 by omega)
        have f0 := hE4.frozen 0
        have f1 := hE4.frozen 1
        have R0 := hE4.set 0 (.int .i64 (cu 0 + 1))
        have R1 := hE4.set 1 (.int .i64 (cu 1 + 1))
        have R2 := R0.set 1 (.int .i64 (cu 1 + 1))
        have C0 := fun v => B3.setCell (p := ⟨w1.heap.size, 0, none⟩) (Nat.le_refl _) v
        have C1 := fun v => B3.setCell (p := ⟨w1.heap.size, 1, none⟩) (Nat.le_refl _) v
        have C2 := fun v v' => (C0 v).setCell (p := ⟨w1.heap.size, 1, none⟩) (Nat.le_refl _) v'
        by_cases hb0 : (bits BinOp.and IntKind.u8 (mask / 2 ^ q) 1 == 1) = true
        · by_cases hb1 : (bits BinOp.and IntKind.u8 (mask / 2 ^ (q + 4)) 1 == 1) = true
          · clear R0 R1 C0 C1
            go_wp2
            go_roundg (n - (q + 1))
            case measure => have := HGQ.out; omega
            case rel => exact ⟨q + 1, by omega, rfl, by go_num, C2 _ _, R2.congr (fun e he => by rw [HE4.out e]; exact cnt_tt cu e he hb0 hb1)⟩
          · have hb1' : (bits BinOp.and IntKind.u8 (mask / 2 ^ (q + 4)) 1 == 1) = false := by simpa using hb1
            clear R1 R2 C1 C2 hb1
            go_wp2
            go_roundg (n - (q + 1))
            case measure => have := HGQ.out; omega
            case rel => exact ⟨q + 1, by omega, rfl, by go_num, C0 _, R0.congr (fun e he => by rw [HE4.out e]; exact cnt_tf cu e he hb0 hb1')⟩
        · have hb0' : (bits BinOp.and IntKind.u8 (mask / 2 ^ q) 1 == 1) = false := by simpa using hb0
          clear hb0
          by_cases hb1 : (bits BinOp.and IntKind.u8 (mask / 2 ^ (q + 4)) 1 == 1) = true
          · clear R0 R2 C0 C2
            go_wp2
            go_roundg (n - (q + 1))
            case measure => have := HGQ.out; omega
            case rel => exact ⟨q + 1, by omega, rfl, by go_num, C1 _, R1.congr (fun e he => by rw [HE4.out e]; exact cnt_ft cu e he hb0' hb1)⟩
          · have hb1' : (bits BinOp.and IntKind.u8 (mask / 2 ^ (q + 4)) 1 == 1) = false := by simpa using hb1
            clear R0 R1 R2 C0 C1 C2 hb1
            go_wp2
            go_roundg (n - (q + 1))
            case measure => have := HGQ.out; omega
            case rel => exact ⟨q + 1, by omega, rfl, by go_num, B3, hE4.congr (fun e he => by rw [HE4.out e]; exact cnt_ff cu e he hb0' hb1')⟩
    · obtain rfl : q = n := by omega
      clear hqn HGQ BC
      go_wp2
      exact HK.out _ _ (rest56 (E := w1.heap.size) (hF.below By hF.sz) (hV.below By) hI (hB.trans (By.mono hBw)) hT tk bT bW (hEy.congr fun e he => by rw [hI.cnt e he]))
end Go.Proofs.Ybulkbhtk
