import Derived.Test.YbulkbhtkB8
import Derived.Deep.CutRange
import Derived.Laws.StructEq
namespace Go.Proofs.Ybulkbhtk
open Go.RowKit

def firstRegion : Code → Option Nat
  | .region id _ _ => some id
  | .seq a _ => firstRegion a
  | .block _ c => firstRegion c
  | .scope c => firstRegion c
  | .loop c => firstRegion c
  | _ => none
/-- What is left of a body from the statement on that begins at region n. -/
def dropTo (n : Nat) : Code → Option Code
  | .seq a b => if firstRegion a = some n then some (.seq a b) else dropTo n b
  | _ => none


theorem eq59 (a : Int) (b : Nat) (e : Bool) (hb : FloatKind.f64.format.order b b = some .eq) (w : World) : (Op.equalIn 10000 59 (.agg #[.int .i64 a, .float .f64 b, .bool e]) (.agg #[.int .i64 a, .float .f64 b, .bool e])).run Yba.prog w = .ok true w := by
  have h1 : ∀ w, (Op.equalIn 9999 37 (.int .i64 a) (.int .i64 a)).run Yba.prog w = .ok true w := fun w => by
    have : (Op.equalIn 9999 37 (.int .i64 a) (.int .i64 a)).run Yba.prog w = .ok (a == a) w := by kernel_rfl
    simpa using this
  have h2 : ∀ w, (Op.equalIn 9999 31 (.float .f64 b) (.float .f64 b)).run Yba.prog w = .ok true w := fun w => by
    have : (Op.equalIn 9999 31 (.float .f64 b) (.float .f64 b)).run Yba.prog w = .ok (FloatKind.f64.format.order b b == some .eq) w := by kernel_rfl
    rw [hb] at this
    simpa using this
  have h3 : ∀ w, (Op.equalIn 9999 4 (.bool e) (.bool e)).run Yba.prog w = .ok true w := fun w => by
    have : (Op.equalIn 9999 4 (.bool e) (.bool e)).run Yba.prog w = .ok (e == e) w := by kernel_rfl
    simpa using this
  have p0 : ∀ w, (part 37 #[.int .i64 a, .float .f64 b, .bool e] 0).run Yba.prog w = .ok (.int .i64 a) w := fun w => by kernel_rfl
  have p1 : ∀ w, (part 31 #[.int .i64 a, .float .f64 b, .bool e] 1).run Yba.prog w = .ok (.float .f64 b) w := fun w => by kernel_rfl
  have p2 : ∀ w, (part 4 #[.int .i64 a, .float .f64 b, .bool e] 2).run Yba.prog w = .ok (.bool e) w := fun w => by kernel_rfl
  have hS : Yba.prog.underlying 59 = some (.struct (Yba.prog.fieldsOf 59)) := by kernel_rfl
  rw [show (10000 : Nat) = 9999 + 1 from rfl, run_equalIn_agg w 9999 59 _ _ hS (by kernel_rfl)]
  simp only [Program.fieldsOf, Yba.underlying59]
  simp [Op.eqFields, p0, p1, p2, h1, h2, h3]
theorem neq59 (a : Int) (b : Nat) (e : Bool) (hb : FloatKind.f64.format.order b b = some .eq) (w : World) : (binOp .neq 59 (.agg #[.int .i64 a, .float .f64 b, .bool e]) (.agg #[.int .i64 a, .float .f64 b, .bool e])).run Yba.prog w = .ok (.bool false) w := by
  rw [run_neq_struct, eq59 a b e hb]
  rfl
theorem guard59 : Yba.prog.eqGuardType Yba.prog.depth 59 = false := by kernel_rfl

theorem best_pself {tm wh : Nat → Int} {pb : Nat → Nat} {k : Int} {hl : Bool} {lo hi : Int} (h : ∀ i, FloatKind.f64.format.order (pb i) (pb i) = some .eq) (i : Nat) : FloatKind.f64.format.order (best tm wh pb k hl lo hi i).2.2 (best tm wh pb k hl lo hi i).2.2 = some .eq := by
  induction i with
  | zero => show FloatKind.f64.format.order 0 0 = some .eq; decide +kernel
  | succ i ih =>
    by_cases h1 : wh i % 5 ≠ k ∨ hi < tm i ∨ (hl = true ∧ tm i ≤ lo)
    · rw [best_skip h1]; exact ih
    · have a : wh i % 5 = k := by simpa using fun e => h1 (.inl e)
      rw [best_take a (fun e => h1 (.inr (.inl e))) (fun e => h1 (.inr (.inr e)))]
      split
      · exact h i
      · exact ih

def anyB (bst : Nat → Bool × Int × Nat) : Nat → Bool
  | 0 => false
  | k + 1 => anyB bst k || (bst k).1
theorem anyB_false (bst : Nat → Bool × Int × Nat) (n : Nat) : anyB bst n = false ↔ ∀ k, k < n → (bst k).1 = false := by
  induction n with
  | zero => simp [anyB]
  | succ n ih =>
    simp only [anyB, Bool.or_eq_false_iff, ih]
    constructor
    · rintro ⟨h1, h2⟩ k hk
      by_cases e : k = n
      · rw [e]; exact h2
      · exact h1 k (by omega)
    · intro h
      exact ⟨fun k hk => h k (by omega), h n (by omega)⟩

set_option maxRecDepth 100000 in
set_option maxHeartbeats 2000000 in
theorem rest63 {w w1 : World} {x : Ids} {N n l : Nat} {mk : Nat → Int} {pub : Nat} {ia : Nat → Option Addr} {ic : Nat → Nat} {il : Nat → List Nat} {s : St} {a4 : Option Addr} {nT c4s : Nat} {tu wh pr : Nat → Int} {mask : Int}
    {c0 c1 c2 c5 c6 c7 c8 c9 c10 c11 c14 c15 c17 c18 c19 c20 c21 c22 c23 c25 c26 c28 c29 c30 c31 c32 c33 c34 c35 c36 c37 c38 c39 c40 c41 c42 c43 c44 c45 c46 c47 c48 c49 c50 c51 c52 c53 c54 c55 c56 c57 c58 c59 c60 c61 c62 c63 c64 c65 c66 c67 c68 c69 c70 c71 c72 c73 c74 c75 c76 c77 c78 c79 c80 c81 c82 c83 c84 c85 c86 c87 c88 c89 c90 c91 c92 c93 c94 c95 c96 c97 c98 c99 c100 c101 c102 c103 c104 c105 c106 c107 c108 c109 c110 c111 c112 c113 c114 c115 c116 c117 c118 c119 c120 c121 c122 c123 c124 c125 c126 c127 c128 c129 c130 c131 c132 c133 c134 c135 c136 c137 c138 c139 c140 c141 c142 c143 c144 c145 c146 c147 c148 c149 c150 c151 c152 c153 c154 c155 c156 c157 c158 c159 c160 c161 c162 c163 c164 c165 c166 c167 c168 c169 c170 c171 c172 c173 c174 c175 c176 c177 c178 c179 c180 c181 c182 c183 c184 c185 c186 c187 c188 c189 c190 c191 c192 c193 c194 c195 c196 c197 c198 c199 c200 c201 c202 c203 c204 c205 c206 c207 c208 c209 c210 c211 c212 c213 c214 c215 c216 c217 c218 c219 c220 c221 c222 c223 c224 c225 c226 c227 c228 c229 c230 c231 c232 c233 c234 c235 c236 c237 c238 c239 c240 c241 c242 c243 c244 c245 c246 c247 c248 c249 c250 c251 c252 c253 c254 c255 c256 c257 c258 c259 c260 c261 c262 c263 c264 c265 c266 c267 c268 c269 c270 c271 c272 c273 c274 c275 c276 c277 c278 c279 c280 c281 c282 c283 c284 c285 c286 c287 c288 c289 c290 c291 c292 c293 c294 c295 c296 c297 c298 c299 c300 c301 c302 c303 c304 c305 c306 c307 c308 c309 c310 c311 c312 c313 c314 c315 c316 c317 c318 c319 c320 c321 c322 c323 c324 c325 c326 c327 c328 c329 c330 c331 c332 c333 c334 c335 c336 c337 c338 c339 c340 c341 c342 c343 c344 c345 c346 c347 c348 c349 c350 c351 c352 c353 c354 c355 c356 c357 c358 c359 c360 c361 c362 c363 c364 c365 c366 c367 c368 c369 c370 c371 c372 c373 c374 c375 c376 c377 c378 c379 c380 c381 c382 c383 c384 c385 c386 c387 c388 c389 c390 c391 c392 c393 c394 c395 c396 c397 c398 c399 c400 c401 c402 c403 c404 c405 c406 c407 c408 c409 c410 c411 c412 c413 c414 c415 c416 c417 c418 c419 c420 c421 c422 c423 c424 c425 c426 c427 c428 c429 c430 c431 c432 c433 c434 c435 c436 : Value}
    (hF : Fix x N n (l + 1) mk pub ia ic il w1) (hV : Var x N n (l + 1) s w1) (hI : Inv (fun i => tu i - 100) wh (fun i => floatOfInt .f64 (pr i)) n (l + 1) mk pub il nT s) (hB : Below w.heap.size w w1) (hT : nT ≤ 1024)
    (tk : Tks w a4 nT tu wh pr) (bT : ∀ i, i < nT → 0 ≤ tu i ∧ tu i ≤ 65535) (bW : ∀ i, i < nT → 0 ≤ wh i ∧ wh i ≤ 255) :
    Code.wp Yba.prog ((Yba.f4.body.bind (dropTo 63)).getD .skip) (bodyPost Yba.prog Yba.f4 fun e w' => e = Ending.returned (Value.bool true) ∧ Below w.heap.size w w') ⟨#[c0, c1, c2, .int .u8 mask, .slice a4 nT c4s, c5, c6, c7, c8, c9, c10, c11, .int .i64 ((l : Int) + 1), .slice (some ⟨x.M, 0, none⟩) (l + 1) (l + 1), c14, c15, .int .i64 (n : Int), c17, c18, c19, c20, c21, c22, c23, .pointer (some ⟨x.S, 0, none⟩), c25, c26, .int .i64 (mk pub), c28, c29, c30, c31, c32, c33, c34, c35, c36, c37, c38, c39, c40, c41, c42, c43, c44, c45, c46, c47, c48, c49, c50, c51, c52, c53, c54, c55, c56, c57, c58, c59, c60, c61, c62, c63, c64, c65, c66, c67, c68, c69, c70, c71, c72, c73, c74, c75, c76, c77, c78, c79, c80, c81, c82, c83, c84, c85, c86, c87, c88, c89, c90, c91, c92, c93, c94, c95, c96, c97, c98, c99, c100, c101, c102, c103, c104, c105, c106, c107, c108, c109, c110, c111, c112, c113, c114, c115, c116, c117, c118, c119, c120, c121, c122, c123, c124, c125, c126, c127, c128, c129, c130, c131, c132, c133, c134, c135, c136, c137, c138, c139, c140, c141, c142, c143, c144, c145, c146, c147, c148, c149, c150, c151, c152, c153, c154, c155, c156, c157, c158, c159, c160, c161, c162, c163, c164, c165, c166, c167, c168, c169, c170, c171, c172, c173, c174, c175, c176, c177, c178, c179, c180, c181, c182, c183, c184, c185, c186, c187, c188, c189, c190, c191, c192, c193, c194, c195, c196, c197, c198, c199, c200, c201, c202, c203, c204, c205, c206, c207, c208, c209, c210, c211, c212, c213, c214, c215, c216, c217, c218, c219, c220, c221, c222, c223, c224, c225, c226, c227, c228, c229, c230, c231, c232, c233, c234, c235, c236, c237, c238, c239, c240, c241, c242, c243, c244, c245, c246, c247, c248, c249, c250, c251, c252, c253, c254, c255, c256, c257, c258, c259, c260, c261, c262, c263, c264, c265, c266, c267, c268, c269, c270, c271, c272, c273, c274, c275, c276, c277, c278, c279, c280, c281, c282, c283, c284, c285, c286, c287, c288, c289, c290, c291, c292, c293, c294, c295, c296, c297, c298, c299, c300, c301, c302, c303, c304, c305, c306, c307, c308, c309, c310, c311, c312, c313, c314, c315, c316, c317, c318, c319, c320, c321, c322, c323, c324, c325, c326, c327, c328, c329, c330, c331, c332, c333, c334, c335, c336, c337, c338, c339, c340, c341, c342, c343, c344, c345, c346, c347, c348, c349, c350, c351, c352, c353, c354, c355, c356, c357, c358, c359, c360, c361, c362, c363, c364, c365, c366, c367, c368, c369, c370, c371, c372, c373, c374, c375, c376, c377, c378, c379, c380, c381, c382, c383, c384, c385, c386, c387, c388, c389, c390, c391, c392, c393, c394, c395, c396, c397, c398, c399, c400, c401, c402, c403, c404, c405, c406, c407, c408, c409, c410, c411, c412, c413, c414, c415, c416, c417, c418, c419, c420, c421, c422, c423, c424, c425, c426, c427, c428, c429, c430, c431, c432, c433, c434, c435, c436], []⟩ w1 := by
  obtain ⟨n1, n2⟩ := hF.nn
  have hm := hF.mm
  have hBw : w.heap.size ≤ w1.heap.size := hB.size
  conv => arg 2; whnf
  go_wp2
  go_loopg [34] (l + 1) (fun gk i wx => ∃ p : Nat, p ≤ l + 1 ∧ gk = l + 1 - p ∧ i = .int .i64 (p : Int) ∧ Below w1.heap.size w1 wx)
  case atStart => exact ⟨0, Nat.zero_le _, rfl, rfl, Below.refl _ _⟩
  case round =>
    obtain ⟨p, hp, hgk, rfl, Bx⟩ := hrel
    have HGK : Hid (gk = l + 1 - p) := hgk
    clear hgk
    by_cases hlt : p < l + 1
    · have Fx := hF.below Bx hF.sz
      have Vx := hV.below Bx
      have hlo : loOf mk pub p = if 0 < p ∧ mk pub < mk (p - 1) then mk (p - 1) else mk pub := rfl
      have HLO : Hid (loOf mk pub p = if 0 < p ∧ mk pub < mk (p - 1) then mk (p - 1) else mk pub) := hlo
      clear hlo
      go_upto_region 67 with fail
      go_cut [34, 359] from 343 to 359 (fun i c wx => i = .int .i64 (p : Int) ∧ c = .bool (decide (0 < p ∧ mk pub < mk (p - 1))) ∧ wr = wx)
      case first =>
        by_cases h0 : p = 0
        · subst h0
          go_wp2
          go_meet
          case rel => exact ⟨rfl, by simp, rfl⟩
        · obtain ⟨p', rfl⟩ : ∃ p', p = p' + 1 := ⟨p - 1, by omega⟩
          have cm := Fx.mks.cell (show p' < l + 1 by omega)
          by_cases h1 : mk pub < mk p'
          · go_wp2
            go_meet
            case rel => exact ⟨by go_num, by simp [h1], rfl⟩
          · go_wp2
            go_meet
            case rel => exact ⟨by go_num, by simp [h1], rfl⟩
      case rest =>
        obtain ⟨rfl, rfl, rfl⟩ := hcut
        go_upto_if 359 with fail
        go_cut [34, 35] from 343 to 364 (fun i lo wx => i = .int .i64 (p : Int) ∧ lo = .int .i64 (loOf mk pub p) ∧ wr = wx)
        case first =>
          by_cases h0 : 0 < p ∧ mk pub < mk (p - 1)
          · obtain ⟨p', rfl⟩ : ∃ p', p = p' + 1 := ⟨p - 1, by omega⟩
            have cm := Fx.mks.cell (show p' < l + 1 by omega)
            have e1 : loOf mk pub (p' + 1) = mk p' := by rw [HLO.out, if_pos h0]; rfl
            have hd : decide (0 < p' + 1 ∧ mk pub < mk (p' + 1 - 1)) = true := by simpa using h0
            rw [hd]
            go_wp2
            go_meet
            case rel => exact ⟨by go_num, by rw [e1], rfl⟩
          · have e1 : loOf mk pub p = mk pub := by rw [HLO.out, if_neg h0]
            have hd : decide (0 < p ∧ mk pub < mk (p - 1)) = false := by simpa using h0
            rw [hd]
            go_wp2
            go_meet
            case rel => exact ⟨by go_num, by rw [e1], rfl⟩
        case rest =>
          obtain ⟨rfl, rfl, rfl⟩ := hcut
          obtain ⟨wo, rfl⟩ : ∃ wo : World, wo = wr := ⟨_, rfl⟩
          obtain ⟨bst, hbst⟩ : ∃ bst : Nat → Bool × Int × Nat, bst = fun (q : Nat) => best (fun i => tu i - 100) wh (fun i => floatOfInt .f64 (pr i)) (q : Int) true (loOf mk pub p) (mk p) nT := ⟨_, rfl⟩
          have BC : ∀ (q : Nat) (W : World), Below w.heap.size w W → Calls Yba.prog 9 #[.slice a4 nT c4s, .int .i64 (q : Int), .bool true, .int .i64 (loOf mk pub p), .int .i64 (mk p)] W fun e w' => e = .returned (.tuple #[.bool (bst q).1, .int .i64 (bst q).2.1, .float .f64 (bst q).2.2]) ∧ Below W.heap.size W w' := fun q W hW => by
            rw [hbst]; exact best_any a4 nT c4s tu wh pr q true (loOf mk pub p) (mk p) W hT (tk.below (Nat.le_refl _) hW) bT bW
          have HI : Hid (∀ q, q < n → s.ks p q = (bst q).1 ∧ s.kt p q = (bst q).2.1 ∧ s.kp p q = (bst q).2.2) := by rw [hbst]; exact fun q hq => hI.ltr p hlt q hq
          have hps : ∀ q, FloatKind.f64.format.order (bst q).2.2 (bst q).2.2 = some .eq := fun q => by rw [hbst]; exact best_pself (fun i => floatOfInt_self (pr i)) nT
          have HZ : Hid (∀ q, (bst q).1 = false → (bst q).2.1 = 0 ∧ (bst q).2.2 = 0) := by rw [hbst]; exact fun q hq => best_zero hq
          have HPS : Hid (∀ q, FloatKind.f64.format.order (bst q).2.2 (bst q).2.2 = some .eq) := hps
          clear hps
          have HN : Hid (s.lt p = none ↔ ∀ q, q < n → s.ks p q = false) := hI.nil p hlt
          clear hbst HLO tk bT bW hI
          go_wp2
          go_loopg [36, 37, 38, 39, 40] n (fun gk any i _ _ _ wx => ∃ q : Nat, q ≤ n ∧ gk = n - q ∧ i = .int .i64 (q : Int) ∧ any = .bool (anyB bst q) ∧ Below w1.heap.size w1 wx)
          case atStart => exact ⟨0, Nat.zero_le _, rfl, rfl, rfl, Bx⟩
          case round =>
            obtain ⟨q, hq, hgq, rfl, rfl, By⟩ := hrel
            have HGQ : Hid (gk = n - q) := hgq
            clear hgq Fx Vx Bx
            by_cases hqn : q < n
            · have cm := (hF.below By hF.sz).mks.cell hlt
              have BCq := BC q wr (hB.trans (By.mono hBw))
              have szy := By.size
              rcases Bool.eq_false_or_eq_true (bst q).1 with hf | hf
              all_goals
                go_wp2_with (go_at_call 9; refine BCq.mono ?_; rintro e w2 ⟨rfl, Bq⟩)
                go_roundg (n - (q + 1))
                case measure => have := HGQ.out; omega
                case rel => exact ⟨q + 1, by omega, rfl, by go_num, by simp [anyB, hf], By.trans (Bq.mono szy)⟩
            · obtain rfl : q = n := by omega
              clear hqn hq HGQ
              have Fx := hF.below By hF.sz
              have Vx := hV.below By
              have s14 := Fx.s14
              have cl := Vx.lts.cell hlt
              go_upto_if 384 with fail
              cases hany : anyB bst q
              · have hn : s.lt p = none := HN.out.2 (fun a ha => by rw [(HI.out a ha).1]; exact (anyB_false bst q).1 hany a ha)
                rw [hn] at cl
                simp only [latVal] at cl
                clear Fx Vx BC
                go_wp2
                go_roundg (l + 1 - (p + 1))
                case measure => have := HGK.out; omega
                case rel => exact ⟨p + 1, by omega, rfl, by go_num, By⟩
              · obtain ⟨g, hg⟩ : ∃ g, s.lt p = some g := by
                  cases h : s.lt p with
                  | some g => exact ⟨g, rfl⟩
                  | none =>
                    have h1 := HN.out.1 h
                    have h2 := (anyB_false bst q).2 (fun a ha => by rw [← (HI.out a ha).1]; exact h1 a ha)
                    rw [hany] at h2; cases h2
                rw [hg] at cl
                simp only [latVal] at cl
                clear Fx Vx HN
                go_wp2
                obtain ⟨wo2, rfl⟩ : ∃ wo2 : World, wo2 = wr := ⟨_, rfl⟩
                go_loopg [41, 42, 43, 44, 45] q (fun gk i _ _ _ _ wx => ∃ r : Nat, r ≤ q ∧ gk = q - r ∧ i = .int .i64 (r : Int) ∧ Below w1.heap.size w1 wx)
                case atStart => exact ⟨0, Nat.zero_le _, rfl, rfl, By⟩
                case round =>
                  obtain ⟨r, hr, hgr, rfl, Bz⟩ := hrel
                  have HGR : Hid (gk = q - r) := hgr
                  clear hgr cl s14 By
                  by_cases hrn : r < q
                  · have Fz := hF.below Bz hF.sz
                    have cm := Fz.mks.cell hlt
                    have BCr := BC r wr (hB.trans (Bz.mono hBw))
                    have szz := Bz.size
                    have hps := HPS.out r
                    have hi := HI.out r hrn
                    clear BC
                    rcases Bool.eq_false_or_eq_true (bst r).1 with hf | hf
                    · go_upto_region 85 with (go_at_call 9; refine BCr.mono ?_; rintro e w2 ⟨rfl, Bq⟩)
                      have B2 : Below w1.heap.size w1 w2 := Bz.trans (Bq.mono szz)
                      have B3 := B2.alloc B2.size (.cells #[.int .i64 (bst r).2.1, .float .f64 (bst r).2.2, .bool true] 59)
                      have F3 := hF.below B3 hF.sz
                      have V3 := hV.below B3
                      have s14 := F3.s14
                      have cl := V3.lts.cell hlt
                      rw [hg] at cl
                      simp only [latVal] at cl
                      have hrow := (V3.kb p hlt g hg).2
                      have k0 := hrow.cell (show r * 3 < q * 3 by omega)
                      have k1 := hrow.cell (show r * 3 + 1 < q * 3 by omega)
                      have k2 := hrow.cell (show r * 3 + 2 < q * 3 by omega)
                      rw [keptCell0, hi.2.1] at k0
                      rw [keptCell1, hi.2.2] at k1
                      rw [keptCell2, hi.1, hf] at k2
                      have hne := neq59 (bst r).2.1 (bst r).2.2 true hps
                      have hg59 := guard59
                      clear F3 V3 hrow hi hps Fz BCr Bq Bz szz cm
                      go_upto_region 88 with fail
                      go_quiet (fail)
                      go_wp2
                      go_roundg (q - (r + 1))
                      case measure => have := HGR.out; omega
                      case rel => exact ⟨r + 1, by omega, rfl, by go_num, ⟨B3.os, B3.tape, B3.output, B3.size, B3.block⟩⟩
                    · go_upto_region 85 with (go_at_call 9; refine BCr.mono ?_; rintro e w2 ⟨rfl, Bq⟩)
                      have B2 : Below w1.heap.size w1 w2 := Bz.trans (Bq.mono szz)
                      have B3 := B2.alloc B2.size (.cells #[.int .i64 0, .float .f64 0, .bool false] 59)
                      have F3 := hF.below B3 hF.sz
                      have V3 := hV.below B3
                      have s14 := F3.s14
                      have cl := V3.lts.cell hlt
                      rw [hg] at cl
                      simp only [latVal] at cl
                      have hrow := (V3.kb p hlt g hg).2
                      have k0 := hrow.cell (show r * 3 < q * 3 by omega)
                      have k1 := hrow.cell (show r * 3 + 1 < q * 3 by omega)
                      have k2 := hrow.cell (show r * 3 + 2 < q * 3 by omega)
                      rw [keptCell0, hi.2.1, (HZ.out r hf).1] at k0
                      rw [keptCell1, hi.2.2, (HZ.out r hf).2] at k1
                      rw [keptCell2, hi.1, hf] at k2
                      have hne := neq59 0 0 false (by rw [(HZ.out r hf).2] at hps; exact hps)
                      have hg59 := guard59
                      clear F3 V3 hrow hi hps Fz BCr Bq Bz szz cm
                      go_upto_region 88 with fail
                      go_quiet (fail)
                      go_wp2
                      go_roundg (q - (r + 1))
                      case measure => have := HGR.out; omega
                      case rel => exact ⟨r + 1, by omega, rfl, by go_num, ⟨B3.os, B3.tape, B3.output, B3.size, B3.block⟩⟩
                  · obtain rfl : r = q := by omega
                    clear hrn hr HGR BC
                    go_wp2
                    go_roundg (l + 1 - (p + 1))
                    case measure => have := HGK.out; omega
                    case rel => exact ⟨p + 1, by omega, rfl, by go_num, Bz⟩
    · go_wp2
      go_ret
      exact ⟨rfl, hB.trans (Bx.mono hBw)⟩
end Go.Proofs.Ybulkbhtk
