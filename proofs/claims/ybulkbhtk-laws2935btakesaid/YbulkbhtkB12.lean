import Derived.Test.YbulkbhtkB11
import Derived.StillTailTactics
namespace Go.Proofs.Ybulkbhtk
open Go.RowKit

set_option maxRecDepth 100000 in
set_option maxHeartbeats 2000000 in
theorem rest39 {w w1 : World} {x : Ids} {N n l : Nat} {mk : Nat → Int} {pub : Nat} {ia : Nat → Option Addr} {ic : Nat → Nat} {s : St} {a4 : Option Addr} {nT c4s : Nat} {tu wh pr : Nat → Int} {mask : Int}
    {c0 c1 c2 c5 c6 c7 c8 c9 c10 c11 c14 c17 c19 c20 c21 c22 c23 c25 c26 c27 c28 c29 c30 c31 c32 c33 c34 c35 c36 c37 c38 c39 c40 c41 c42 c43 c44 c45 c46 c47 c48 c49 c50 c51 c52 c53 c54 c55 c56 c57 c58 c59 c60 c61 c62 c63 c64 c65 c66 c67 c68 c69 c70 c71 c72 c73 c74 c75 c76 c77 c78 c79 c80 c81 c82 c83 c84 c85 c86 c87 c88 c89 c90 c91 c92 c93 c94 c95 c96 c97 c98 c99 c100 c101 c102 c103 c104 c105 c106 c107 c108 c109 c110 c111 c112 c113 c114 c115 c116 c117 c118 c119 c120 c121 c122 c123 c124 c125 c126 c127 c128 c129 c130 c131 c132 c133 c134 c135 c136 c137 c138 c139 c140 c141 c142 c143 c144 c145 c146 c147 c148 c149 c150 c151 c152 c153 c154 c155 c156 c157 c158 c159 c160 c161 c162 c163 c164 c165 c166 c167 c168 c169 c170 c171 c172 c173 c174 c175 c176 c177 c178 c179 c180 c181 c182 c183 c184 c185 c186 c187 c188 c189 c190 c191 c192 c193 c194 c195 c196 c197 c198 c199 c200 c201 c202 c203 c204 c205 c206 c207 c208 c209 c210 c211 c212 c213 c214 c215 c216 c217 c218 c219 c220 c221 c222 c223 c224 c225 c226 c227 c228 c229 c230 c231 c232 c233 c234 c235 c236 c237 c238 c239 c240 c241 c242 c243 c244 c245 c246 c247 c248 c249 c250 c251 c252 c253 c254 c255 c256 c257 c258 c259 c260 c261 c262 c263 c264 c265 c266 c267 c268 c269 c270 c271 c272 c273 c274 c275 c276 c277 c278 c279 c280 c281 c282 c283 c284 c285 c286 c287 c288 c289 c290 c291 c292 c293 c294 c295 c296 c297 c298 c299 c300 c301 c302 c303 c304 c305 c306 c307 c308 c309 c310 c311 c312 c313 c314 c315 c316 c317 c318 c319 c320 c321 c322 c323 c324 c325 c326 c327 c328 c329 c330 c331 c332 c333 c334 c335 c336 c337 c338 c339 c340 c341 c342 c343 c344 c345 c346 c347 c348 c349 c350 c351 c352 c353 c354 c355 c356 c357 c358 c359 c360 c361 c362 c363 c364 c365 c366 c367 c368 c369 c370 c371 c372 c373 c374 c375 c376 c377 c378 c379 c380 c381 c382 c383 c384 c385 c386 c387 c388 c389 c390 c391 c392 c393 c394 c395 c396 c397 c398 c399 c400 c401 c402 c403 c404 c405 c406 c407 c408 c409 c410 c411 c412 c413 c414 c415 c416 c417 c418 c419 c420 c421 c422 c423 c424 c425 c426 c427 c428 c429 c430 c431 c432 c433 c434 c435 c436 : Value}
    (hF : Fix x N n (l + 1) mk pub ia ic (ilOf mask) w1) (hV : Var x N n (l + 1) s w1) (hI : Inv (fun i => tu i - 100) wh (fun i => floatOfInt .f64 (pr i)) n (l + 1) mk pub (ilOf mask) nT s) (hB : Below w.heap.size w w1) (hT : nT ≤ 1024)
    (tk : Tks w a4 nT tu wh pr) (bT : ∀ i, i < nT → 0 ≤ tu i ∧ tu i ≤ 65535) (bW : ∀ i, i < nT → 0 ≤ wh i ∧ wh i ≤ 255) :
    Code.wp Yba.prog ((Yba.f4.body.bind (dropTo 39)).getD .skip) (bodyPost Yba.prog Yba.f4 fun e w' => e = Ending.returned (Value.bool true) ∧ Below w.heap.size w w') ⟨#[c0, c1, c2, .int .u8 mask, .slice a4 nT c4s, c5, c6, c7, c8, c9, c10, c11, .int .i64 ((l : Int) + 1), .slice (some ⟨x.M, 0, none⟩) (l + 1) (l + 1), c14, .int .i64 (pub : Int), .int .i64 (n : Int), c17, .slice (some ⟨x.C, 0, none⟩) n n, c19, c20, c21, c22, c23, .pointer (some ⟨x.S, 0, none⟩), c25, c26, c27, c28, c29, c30, c31, c32, c33, c34, c35, c36, c37, c38, c39, c40, c41, c42, c43, c44, c45, c46, c47, c48, c49, c50, c51, c52, c53, c54, c55, c56, c57, c58, c59, c60, c61, c62, c63, c64, c65, c66, c67, c68, c69, c70, c71, c72, c73, c74, c75, c76, c77, c78, c79, c80, c81, c82, c83, c84, c85, c86, c87, c88, c89, c90, c91, c92, c93, c94, c95, c96, c97, c98, c99, c100, c101, c102, c103, c104, c105, c106, c107, c108, c109, c110, c111, c112, c113, c114, c115, c116, c117, c118, c119, c120, c121, c122, c123, c124, c125, c126, c127, c128, c129, c130, c131, c132, c133, c134, c135, c136, c137, c138, c139, c140, c141, c142, c143, c144, c145, c146, c147, c148, c149, c150, c151, c152, c153, c154, c155, c156, c157, c158, c159, c160, c161, c162, c163, c164, c165, c166, c167, c168, c169, c170, c171, c172, c173, c174, c175, c176, c177, c178, c179, c180, c181, c182, c183, c184, c185, c186, c187, c188, c189, c190, c191, c192, c193, c194, c195, c196, c197, c198, c199, c200, c201, c202, c203, c204, c205, c206, c207, c208, c209, c210, c211, c212, c213, c214, c215, c216, c217, c218, c219, c220, c221, c222, c223, c224, c225, c226, c227, c228, c229, c230, c231, c232, c233, c234, c235, c236, c237, c238, c239, c240, c241, c242, c243, c244, c245, c246, c247, c248, c249, c250, c251, c252, c253, c254, c255, c256, c257, c258, c259, c260, c261, c262, c263, c264, c265, c266, c267, c268, c269, c270, c271, c272, c273, c274, c275, c276, c277, c278, c279, c280, c281, c282, c283, c284, c285, c286, c287, c288, c289, c290, c291, c292, c293, c294, c295, c296, c297, c298, c299, c300, c301, c302, c303, c304, c305, c306, c307, c308, c309, c310, c311, c312, c313, c314, c315, c316, c317, c318, c319, c320, c321, c322, c323, c324, c325, c326, c327, c328, c329, c330, c331, c332, c333, c334, c335, c336, c337, c338, c339, c340, c341, c342, c343, c344, c345, c346, c347, c348, c349, c350, c351, c352, c353, c354, c355, c356, c357, c358, c359, c360, c361, c362, c363, c364, c365, c366, c367, c368, c369, c370, c371, c372, c373, c374, c375, c376, c377, c378, c379, c380, c381, c382, c383, c384, c385, c386, c387, c388, c389, c390, c391, c392, c393, c394, c395, c396, c397, c398, c399, c400, c401, c402, c403, c404, c405, c406, c407, c408, c409, c410, c411, c412, c413, c414, c415, c416, c417, c418, c419, c420, c421, c422, c423, c424, c425, c426, c427, c428, c429, c430, c431, c432, c433, c434, c435, c436], []⟩ w1 := by
  have hp := hF.hp
  have cm := hF.mks.cell hp
  conv => arg 2; whnf
  refine wp_seq_k (fun K hK => ?_)
  have HK : Hid (∀ a w', Code.wp Yba.prog ((Yba.f4.body.bind (dropTo 40)).getD .skip) (bodyPost Yba.prog Yba.f4 fun e w' => e = Ending.returned (Value.bool true) ∧ Below w.heap.size w w') a w' → K a w') := hK
  clear hK
  go_wp2
  refine HK.out _ _ ?_
  clear HK
  conv => arg 2; whnf
  refine wp_seq_k (fun K2 hK => ?_)
  have HK2 : Hid (∀ a w', Code.wp Yba.prog ((Yba.f4.body.bind (dropTo 41)).getD .skip) (bodyPost Yba.prog Yba.f4 fun e w' => e = Ending.returned (Value.bool true) ∧ Below w.heap.size w w') a w' → K2 a w') := hK
  clear hK
  go_wp2
  refine HK2.out _ _ (rest41 hF hV hI hB hT tk bT bW ((Below.refl _ _).alloc (Nat.le_refl _) _) ?_)
  exact (World.rowIs_alloc w1 #[.int .i64 0, .int .i64 0] 3 (fun _ => .int .i64 0) (by
    intro i hi
    match i, hi with
    | 0, _ => rfl
    | 1, _ => rfl))

/-- 'wp_region_still_tail', the world behind the draw under its own name. -/
theorem still_tail_drew {P : Program} {w : World} {id : Nat} {Q : Exit → Act → World → Prop} {a : Act} {l : List Oper} (n : Nat) (hm : P.follows .mixedOrders = true) (hB : Region.lexTailB .any l.toArray n = true)
    (h : wpStill P l.toArray w.drew (fun a' => wpList P l.toArray Q (l.drop n) a' w.drew) (l.take n) a) : (Code.region id l.toArray true).wp P Q a w :=
  wp_region_still_tail n hm hB h

set_option maxRecDepth 100000 in
set_option maxHeartbeats 2000000 in
theorem rest34 {w wc : World} {x : Ids} {N n l : Nat} {mk : Nat → Int} {pub : Nat} {ia : Nat → Option Addr} {ic : Nat → Nat} {a4 : Option Addr} {nT c4s : Nat} {tu wh pr : Nat → Int} {mask : Int}
    {c0 c1 c2 c5 c6 c7 c8 c9 c10 c14 c17 c19 c20 c21 c22 c23 c25 c26 c27 c28 c29 c30 c31 c32 c33 c34 c35 c36 c37 c38 c39 c40 c41 c42 c43 c44 c45 c46 c47 c48 c49 c50 c51 c52 c53 c54 c55 c56 c57 c58 c59 c60 c61 c62 c63 c64 c65 c66 c67 c68 c69 c70 c71 c72 c73 c74 c75 c76 c77 c78 c79 c80 c81 c82 c83 c84 c85 c86 c87 c88 c89 c90 c91 c92 c93 c94 c95 c96 c97 c98 c99 c100 c101 c102 c103 c104 c105 c106 c107 c108 c109 c110 c111 c112 c113 c114 c115 c116 c117 c118 c119 c120 c121 c122 c123 c124 c125 c126 c127 c128 c129 c130 c131 c132 c133 c134 c135 c136 c137 c138 c139 c140 c141 c142 c143 c144 c145 c146 c147 c148 c149 c150 c151 c152 c153 c154 c155 c156 c157 c158 c159 c160 c161 c162 c163 c164 c165 c166 c167 c168 c169 c170 c171 c172 c173 c174 c175 c176 c177 c178 c179 c180 c181 c182 c183 c184 c185 c186 c187 c188 c189 c190 c191 c192 c193 c194 c195 c196 c197 c198 c199 c200 c201 c202 c203 c204 c205 c206 c207 c208 c209 c210 c211 c212 c213 c214 c215 c216 c217 c218 c219 c220 c221 c222 c223 c224 c225 c226 c227 c228 c229 c230 c231 c232 c233 c234 c235 c236 c237 c238 c239 c240 c241 c242 c243 c244 c245 c246 c247 c248 c249 c250 c251 c252 c253 c254 c255 c256 c257 c258 c259 c260 c261 c262 c263 c264 c265 c266 c267 c268 c269 c270 c271 c272 c273 c274 c275 c276 c277 c278 c279 c280 c281 c282 c283 c284 c285 c286 c287 c288 c289 c290 c291 c292 c293 c294 c295 c296 c297 c298 c299 c300 c301 c302 c303 c304 c305 c306 c307 c308 c309 c310 c311 c312 c313 c314 c315 c316 c317 c318 c319 c320 c321 c322 c323 c324 c325 c326 c327 c328 c329 c330 c331 c332 c333 c334 c335 c336 c337 c338 c339 c340 c341 c342 c343 c344 c345 c346 c347 c348 c349 c350 c351 c352 c353 c354 c355 c356 c357 c358 c359 c360 c361 c362 c363 c364 c365 c366 c367 c368 c369 c370 c371 c372 c373 c374 c375 c376 c377 c378 c379 c380 c381 c382 c383 c384 c385 c386 c387 c388 c389 c390 c391 c392 c393 c394 c395 c396 c397 c398 c399 c400 c401 c402 c403 c404 c405 c406 c407 c408 c409 c410 c411 c412 c413 c414 c415 c416 c417 c418 c419 c420 c421 c422 c423 c424 c425 c426 c427 c428 c429 c430 c431 c432 c433 c434 c435 c436 : Value}
    (F0 : Fix x N n (l + 1) mk pub ia ic (ilOf mask) wc) (V0 : Var x N n (l + 1) (zeroSt (ilOf mask) n) wc) (L1 : Lo (w.heap.size + 1) x N) (rI0 : wc.rowIs w.heap.size 9 5 (fun j => .string (idOf j))) (B0 : Below w.heap.size w wc) (hT : nT ≤ 1024)
    (tk : Tks w a4 nT tu wh pr) (bT : ∀ i, i < nT → 0 ≤ tu i ∧ tu i ≤ 65535) (bW : ∀ i, i < nT → 0 ≤ wh i ∧ wh i ≤ 255) :
    Code.wp Yba.prog ((Yba.f4.body.bind (dropTo 34)).getD .skip) (bodyPost Yba.prog Yba.f4 fun e w' => e = Ending.returned (Value.bool true) ∧ Below w.heap.size w w') ⟨#[c0, c1, c2, .int .u8 mask, .slice a4 nT c4s, c5, c6, c7, c8, c9, c10, .slice (some ⟨w.heap.size, 0, none⟩) 5 5, .int .i64 ((l : Int) + 1), .slice (some ⟨x.M, 0, none⟩) (l + 1) (l + 1), c14, .int .i64 (pub : Int), .int .i64 (n : Int), c17, .slice (some ⟨x.C, 0, none⟩) n n, c19, c20, c21, c22, c23, .pointer (some ⟨x.S, 0, none⟩), c25, c26, c27, c28, c29, c30, c31, c32, c33, c34, c35, c36, c37, c38, c39, c40, c41, c42, c43, c44, c45, c46, c47, c48, c49, c50, c51, c52, c53, c54, c55, c56, c57, c58, c59, c60, c61, c62, c63, c64, c65, c66, c67, c68, c69, c70, c71, c72, c73, c74, c75, c76, c77, c78, c79, c80, c81, c82, c83, c84, c85, c86, c87, c88, c89, c90, c91, c92, c93, c94, c95, c96, c97, c98, c99, c100, c101, c102, c103, c104, c105, c106, c107, c108, c109, c110, c111, c112, c113, c114, c115, c116, c117, c118, c119, c120, c121, c122, c123, c124, c125, c126, c127, c128, c129, c130, c131, c132, c133, c134, c135, c136, c137, c138, c139, c140, c141, c142, c143, c144, c145, c146, c147, c148, c149, c150, c151, c152, c153, c154, c155, c156, c157, c158, c159, c160, c161, c162, c163, c164, c165, c166, c167, c168, c169, c170, c171, c172, c173, c174, c175, c176, c177, c178, c179, c180, c181, c182, c183, c184, c185, c186, c187, c188, c189, c190, c191, c192, c193, c194, c195, c196, c197, c198, c199, c200, c201, c202, c203, c204, c205, c206, c207, c208, c209, c210, c211, c212, c213, c214, c215, c216, c217, c218, c219, c220, c221, c222, c223, c224, c225, c226, c227, c228, c229, c230, c231, c232, c233, c234, c235, c236, c237, c238, c239, c240, c241, c242, c243, c244, c245, c246, c247, c248, c249, c250, c251, c252, c253, c254, c255, c256, c257, c258, c259, c260, c261, c262, c263, c264, c265, c266, c267, c268, c269, c270, c271, c272, c273, c274, c275, c276, c277, c278, c279, c280, c281, c282, c283, c284, c285, c286, c287, c288, c289, c290, c291, c292, c293, c294, c295, c296, c297, c298, c299, c300, c301, c302, c303, c304, c305, c306, c307, c308, c309, c310, c311, c312, c313, c314, c315, c316, c317, c318, c319, c320, c321, c322, c323, c324, c325, c326, c327, c328, c329, c330, c331, c332, c333, c334, c335, c336, c337, c338, c339, c340, c341, c342, c343, c344, c345, c346, c347, c348, c349, c350, c351, c352, c353, c354, c355, c356, c357, c358, c359, c360, c361, c362, c363, c364, c365, c366, c367, c368, c369, c370, c371, c372, c373, c374, c375, c376, c377, c378, c379, c380, c381, c382, c383, c384, c385, c386, c387, c388, c389, c390, c391, c392, c393, c394, c395, c396, c397, c398, c399, c400, c401, c402, c403, c404, c405, c406, c407, c408, c409, c410, c411, c412, c413, c414, c415, c416, c417, c418, c419, c420, c421, c422, c423, c424, c425, c426, c427, c428, c429, c430, c431, c432, c433, c434, c435, c436], []⟩ wc := by
  have I0 := Inv.start (tm := fun i => tu i - 100) (wh := wh) (pb := fun i => floatOfInt .f64 (pr i)) (n := n) (m := l + 1) (mk := mk) (pub := pub) (il := ilOf mask)
  conv => arg 2; whnf
  refine wp_seq_k (fun K hK => ?_)
  have HK : Hid (∀ a w', Code.wp Yba.prog ((Yba.f4.body.bind (dropTo 39)).getD .skip) (bodyPost Yba.prog Yba.f4 fun e w' => e = Ending.returned (Value.bool true) ∧ Below w.heap.size w w') a w' → K a w') := hK
  clear hK
  go_wp2
  go_loopw [25, 26] (fun i _ wx => ∃ j : Nat, j ≤ nT ∧ i = .int .i64 j ∧ Fix x N n (l + 1) mk pub ia ic (ilOf mask) wx ∧ (∃ s, Inv (fun i => tu i - 100) wh (fun i => floatOfInt .f64 (pr i)) n (l + 1) mk pub (ilOf mask) j s ∧ Var x N n (l + 1) s wx) ∧ Below (w.heap.size + 1) wc wx) (fun i _ _ => nT - (intOf i).toNat)
  case atStart => exact ⟨0, Nat.zero_le _, rfl, F0, ⟨_, I0, V0⟩, Below.refl _ _⟩
  case round =>
    obtain ⟨j, hj, rfl, Fj, ⟨s, Ij, Vj⟩, Bj⟩ := hrel
    clear I0 V0 F0
    by_cases hlt : j < nT
    · rcases tk with h0 | ⟨b, off, rfl, hc⟩
      · omega
      have Bw := B0.trans (Bj.mono (Nat.le_succ _))
      obtain ⟨t1, t2, t3⟩ := hc j hlt
      have lb : b < w.heap.size := lt_of_cell t1
      have c1 := (Bw.cell (p := ⟨b, off + j * 3, none⟩) lb).trans t1
      have c2 := (Bw.cell (p := ⟨b, off + j * 3 + 1, none⟩) lb).trans t2
      have c3 := (Bw.cell (p := ⟨b, off + j * 3 + 2, none⟩) lb).trans t3
      obtain ⟨bt0, bt1⟩ := bT j hlt
      obtain ⟨bw0, bw1⟩ := bW j hlt
      obtain ⟨j5, hj5⟩ : ∃ j5 : Nat, wh j % 5 = (j5 : Int) := ⟨(wh j % 5).toNat, by omega⟩
      have hj5' : j5 < 5 := by omega
      have bA := (Below.refl wr.heap.size wr).alloc (Nat.le_refl _) (.cells #[.int .u16 (tu j), .int .u8 (wh j), .int .i32 (pr j)] 51)
      have rI1 : (wr.alloc (.cells #[.int .u16 (tu j), .int .u8 (wh j), .int .i32 (pr j)] 51)).rowIs w.heap.size 9 5 (fun j => .string (idOf j)) := (rI0.of_block (Bj.block _ (by omega))).alloc _
      have cI := rI1.cell hj5'
      have FA := Fj.below bA Fj.sz
      have VA := Vj.below bA
      have BA := Bj.trans (bA.mono (Nat.le_trans L1.2.2.2.2.2 Fj.sz))
      have hmo : Yba.prog.follows .mixedOrders = true := by kernel_rfl
      clear hc t1 t2 t3 bT bW B0 rI0 rI1 Bw Fj Vj Bj bA HK
      go_upto_region 38 with fail
      have e1 : IntKind.i64.wrap (wh j) = wh j := by rw [IntKind.wrap_i64]; omega
      have e2 : (wh j).tmod 5 = (j5 : Int) := by rw [Int.tmod_eq_emod_of_nonneg bw0]; exact hj5
      have e3 : IntKind.i64.wrap (tu j) = tu j := by rw [IntKind.wrap_i64]; omega
      have e4 : IntKind.i64.wrap (tu j - 100) = tu j - 100 := by rw [IntKind.wrap_i64]; omega
      have hj5i : (j5 : Int) < 5 := by omega
      refine still_tail_drew 16 hmo (by kernel_rfl) ?_
      simp only [List.take_succ_cons, List.take_zero, List.drop_succ_cons, List.drop_zero]
      repeat still_step
      try refine wpStill_nil ?_
      clear e1 e2 e3 e4
      go_wp2_with (go_at_call 8; (refine (take_any (FA.below (Below.refl _ _).drew FA.sz) (VA.below (Below.refl _ _).drew) L1 Ij (fun a _ => il_nodup mask a) j5 hj5' hj5).mono ?_); rintro e w2 ⟨rfl, F2, ⟨s2, I2, V2⟩, B2⟩)
      go_roundw
      case rel => exact ⟨j + 1, by omega, by go_num, F2, ⟨s2, I2, V2⟩, BA.drew.trans B2⟩
      case measure => simp [intOf]; omega
    · obtain rfl : j = nT := by omega
      clear hlt hj
      go_wp2
      exact HK.out _ _ (rest39 Fj Vj Ij (B0.trans (Bj.mono (Nat.le_succ _))) hT tk bT bW)
end Go.Proofs.Ybulkbhtk
