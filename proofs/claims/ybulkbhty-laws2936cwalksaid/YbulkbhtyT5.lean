import Derived.Test.YbulkbhtyT4
import Derived.Deep.CutRange
namespace Go.Proofs.Ybulkbhty.Tree
open Go.RowKit Go.WideShapes Go.Lib

theorem str_one (ks : List Key) : ∀ x ∈ ks.map Value.string, x.oneCell' = true := fun x hx => by
  obtain ⟨k, _, rfl⟩ := List.mem_map.1 hx
  rfl

/-- 'row = append(row, news...)' in a row with room: what the row holds then. -/
theorem Vec.append {w : World} {b t cap : Nat} {xs : List Value} (h : Vec w b t cap xs) (news : List Value) (hroom : xs.length + news.length ≤ cap) : Vec (w.setCells b xs.length news) b t cap (xs ++ news) := by
  obtain ⟨f, hr, hl, hf⟩ := h
  refine ⟨_, row_setCells hr news xs.length, by simpa using hroom, fun j u hj => ?_⟩
  by_cases hj1 : j < xs.length
  · rw [List.getElem?_append_left hj1] at hj
    rw [if_neg (by omega)]
    exact hf j u hj
  · rw [List.getElem?_append_right (by omega)] at hj
    have hlt : j - xs.length < news.length := (List.getElem?_eq_some_iff.1 hj).1
    rw [if_pos (by omega), List.getD_eq_getElem?_getD, hj]
    rfl
/-- What is left ahead of cells that were turned. -/
theorem Vec.cut {w : World} {b t cap : Nat} {xs ys : List Value} (h : Vec w b t cap (xs ++ ys)) (news : List Value) (o : Nat) (ho : xs.length ≤ o) : Vec (w.setCells b o news) b t cap xs := by
  obtain ⟨f, hr, hl, hf⟩ := h
  refine ⟨_, row_setCells hr news o, by simp at hl; omega, fun j u hj => ?_⟩
  have hlt : j < xs.length := (List.getElem?_eq_some_iff.1 hj).1
  rw [if_neg (by omega)]
  exact hf j u (by rw [List.getElem?_append_left hlt]; exact hj)

theorem vec_one (w : World) (v : Value) (t : Nat) : Vec (w.alloc (.cells #[v] t)) w.heap.size t 1 [v] := by
  refine ⟨fun _ => v, World.rowIs_alloc w #[v] t (fun _ => v) (fun j hj => ?_), by simp, fun j u hj => ?_⟩
  · have h1 : j < 1 := hj
    obtain rfl : j = 0 := by omega
    rfl
  · obtain ⟨_, rfl⟩ := one_get hj
    rfl

set_option maxHeartbeats 4000000 in
set_option maxRecDepth 100000 in
theorem split_any (S p kb cb c ckb i : Nat) (ks L R : List Key) (m : Key) (xs : List Value) (w : World)
    (hO : w.cell? ⟨S, 4, none⟩ = some (.pointer none))
    (hN : NodeAt w p (.slice (some ⟨kb, 0, none⟩) ks.length 63) (.slice (some ⟨cb, 0, none⟩) xs.length 64))
    (hK : Vec w kb 9 63 (ks.map .string)) (hX : Vec w cb 55 64 xs) (h1 : ∀ x ∈ xs, x.oneCell' = true)
    (hi : xs[i]? = some (.pointer (some ⟨c, 0, none⟩)))
    (hC : NodeAt w c (.slice (some ⟨ckb, 0, none⟩) 63 63) (.slice none 0 0))
    (hCK : Vec w ckb 9 63 ((L ++ m :: R).map .string)) (hL : L.length = 31) (hR : R.length = 31)
    (hki : i ≤ ks.length) (hk63 : ks.length < 63) (hx64 : xs.length < 64)
    (d1 : p ≠ kb) (d2 : p ≠ cb) (d3 : p ≠ c) (d4 : p ≠ ckb) (d5 : kb ≠ cb) (d6 : kb ≠ c) (d7 : kb ≠ ckb) (d8 : cb ≠ c) (d9 : cb ≠ ckb) (d10 : c ≠ ckb) :
    Calls Yba.prog 31 #[.pointer (some ⟨S, 2, none⟩), .pointer (some ⟨p, 0, none⟩), .int .i64 (i : Int)] w fun e w' => e = .returned (.tuple #[]) ∧ ∃ q qb, w.heap.size ≤ q ∧ w.heap.size ≤ qb ∧ q ≠ qb ∧
      NodeAt w' q (.slice (some ⟨qb, 0, none⟩) 31 63) (.slice none 0 0) ∧ Vec w' qb 9 63 (R.map .string) ∧
      NodeAt w' c (.slice (some ⟨ckb, 0, none⟩) 31 63) (.slice none 0 0) ∧ Vec w' ckb 9 63 (L.map .string) ∧
      NodeAt w' p (.slice (some ⟨kb, 0, none⟩) (ks.length + 1) 63) (.slice (some ⟨cb, 0, none⟩) (xs.length + 1) 64) ∧ Vec w' kb 9 63 ((ks.take i ++ m :: ks.drop i).map .string) ∧
      Vec w' cb 55 64 (xs.take (i + 1) ++ .pointer (some ⟨q, 0, none⟩) :: xs.drop (i + 1)) ∧
      Touch (fun k => k = p ∨ k = kb ∨ k = cb ∨ k = c ∨ k = ckb) w w' := by
  have lp := hN.lt
  have lkb := hK.lt
  have lcb := hX.lt
  have lc := hC.lt
  have lckb := hCK.lt
  have c2 := hN.c2
  have ci := hX.cell hi
  have hil : i < xs.length := (List.getElem?_eq_some_iff.1 hi).1
  have i1 : (i : Int) < xs.length := by omega
  have cc2 := hC.c2
  have hsn := fun w' a n c n' c' => Lib.run_eql_slice_nil (P := Yba.prog) w' 71 55 a n c n' c' Yba.underlying71
  have NL := fun W h => newLeaf S W h
  go_enter Yba.func31, Yba.ntmps31
  go_upto_region 2 with (go_at_call 29; refine (NL _ hO).mono ?_; rintro e w1 ⟨q, qb, rfl, q1, q2, q3, q4, q5, t1⟩)
  have a1 : Touch (fun k => k = p ∨ k = kb ∨ k = cb ∨ k = c ∨ k = ckb) w w1 := t1.mono (fun _ _ h => h.elim)
  replace hN := hN.touch t1 (fun h => h)
  replace hK := hK.touch t1 (fun h => h)
  replace hX := hX.touch t1 (fun h => h)
  replace hC := hC.touch t1 (fun h => h)
  replace hCK := hCK.touch t1 (fun h => h)
  have e1 : ∀ x, x < w.heap.size → x ≠ q := fun x h e => by omega
  have e2 : ∀ x, x < w.heap.size → x ≠ qb := fun x h e => by omega
  clear c2 ci cc2 NL hO t1
  have p1 := hC.c1
  have p2 := q1.c1
  obtain ⟨i0, hi0, hz1⟩ := parts9
  obtain ⟨news, hnews⟩ : ∃ news, news = R.map Value.string := ⟨_, rfl⟩
  have hlen : news.length = 31 := by rw [hnews]; simpa using hR
  have hsrc : Hid (∀ t u, news[t]? = some u → w1.drew.cell? ((⟨ckb, 32, none⟩ : Addr).add t) = some u) := fun t u hu => by
    rw [Addr.add_lit]
    refine Vec.cell (w := w1) hCK ?_
    rw [List.map_append, List.getElem?_append_right (by simp; omega)]
    simp only [List.length_map, hL, List.map_cons]
    rw [show 32 + t - 31 = t + 1 by omega, List.getElem?_cons_succ, ← hnews]
    exact hu
  have s1 : Hid (news.length = 31 * 1) := hlen
  have s2 : Hid (∀ u ∈ news, u.oneCell' = true) := fun u hu => str_one R u (by rw [← hnews]; exact hu)
  have s3 : Hid (∀ t, t < news.length → (w1.drew.cell? ⟨qb, 0 + 0 * 1 + t, none⟩).isSome = true ∧ w1.drew.frozen? ⟨qb, 0 + 0 * 1 + t, none⟩ = false) := fun t ht => ⟨q2.some (by omega), q2.frozen _⟩
  obtain ⟨w2, hw2⟩ : ∃ w2, w2 = w1.drew.setCells qb (0 + 0 * 1) news := ⟨_, rfl⟩
  have t2 : Touch (· = qb) w1 w2 := by rw [hw2]; exact ((Touch.refl (· = qb) w1).drew).setCells (fun _ => rfl) _ _
  have q2' : Vec w2 qb 9 63 news := by
    rw [hw2]
    have := Vec.append (w := w1.drew) (q2.touch ((Touch.refl (fun _ => False) w1).drew) (fun h => h)) news (by simp; omega)
    simpa using this
  have q1' := q1.touch t2 q3
  have p3 := q1'.c1
  have p4 := q1'.fz 1
  have hW : Hid (w2 = w1.drew.setCells qb (0 + 0 * 1) news) := hw2
  have mixed : Yba.prog.follows .mixedOrders = true := by kernel_rfl
  clear hw2
  go_cut [7] from 23 to 35 (fun v wx => v = .pointer (some ⟨q, 0, none⟩) ∧ wx = w2.setCell ⟨q, 1, none⟩ (.slice (some ⟨qb, 0, none⟩) 31 63))
  case first =>
    go_region_law_o (refine step_append_room rfl (.tmp 27) (.tmp 32) 70 rfl 9 i0 1 Yba.underlying70 hi0 hz1 qb 0 0 63 (by simp [Act.eval, Act.put]) ⟨ckb, 32, none⟩ 31 31 news (by simp [Act.eval, Act.put]) s1.out hsrc.out s2.out (by omega) s3.out ?_; rw [← hW.out])
    all_goals (go_wp2_with fail; go_meet; exact ⟨rfl, rfl⟩)
  case rest =>
    obtain ⟨rfl, hwc⟩ := hcut
    have t3 : Touch (fun k => k = q ∨ k = qb) w1 wc := by rw [hwc]; exact (t2.mono (fun _ _ h => .inr h)).setCell (fun _ => .inl rfl)
    have nq : NodeAt wc q (.slice (some ⟨qb, 0, none⟩) 31 63) (.slice none 0 0) := by rw [hwc]; exact q1'.set1 _
    have vq : Vec wc qb 9 63 news := by rw [hwc]; exact q2'.touch ((Touch.refl (· = q) w2).setCell (fun _ => rfl)) (fun h => q3 h.symm)
    have o1 : ∀ x, x < w.heap.size → ¬ (x = q ∨ x = qb) := fun x h k => k.elim (e1 x h) (e2 x h)
    have a3 := a1.trans t3 (fun x hx h => absurd h (o1 x hx))
    have hN3 := hN.touch t3 (o1 p lp)
    have hK3 := hK.touch t3 (o1 kb lkb)
    have hX3 := hX.touch t3 (o1 cb lcb)
    have hC3 := hC.touch t3 (o1 c lc)
    have hCK3 := hCK.touch t3 (o1 ckb lckb)
    clear hN hK hX hC hCK t2 t3 q1 q2 q1' q2' p1 p2 p3 p4 s1 s2 s3 hsrc hwc hW a1 i0 hi0 hz1 mixed
    have k1 := hC3.c1
    have k2 : wc.cell? ⟨ckb, 31, none⟩ = some (.string m) := hCK3.cell (by rw [List.map_append, List.getElem?_append_right (by simp; omega)]; simp [hL])
    have hcl : ∀ ty, (Builtin.clear_ #[70] ty #[.slice (some ⟨ckb, 31, none⟩) 32 32]).run Yba.prog wc = .ok (.tuple #[]) (wc.setCells ckb 31 (List.replicate 32 (.string ⟨#[]⟩))) := fun ty =>
      Lib.run_clear_slice wc _ _ ty _ Yba.underlying70 zero9 rfl rfl ckb 31 32 32 (by omega) (fun t ht => hCK3.some (by omega)) (fun t ht => hCK3.frozen _)
    obtain ⟨w4, hw4⟩ : ∃ w4, w4 = wc.setCells ckb 31 (List.replicate 32 (.string ⟨#[]⟩)) := ⟨_, rfl⟩
    rw [← hw4] at hcl
    have t4 : Touch (· = ckb) wc w4 := by rw [hw4]; exact (Touch.refl (· = ckb) wc).setCells (fun _ => rfl) _ _
    have hCK4 : Vec w4 ckb 9 63 (L.map .string) := by
      rw [hw4]
      refine Vec.cut (ys := (m :: R).map .string) ?_ _ 31 (by simp; omega)
      rw [← List.map_append]; exact hCK3
    have hC4 := hC3.touch t4 d10
    have k3 := hC4.c1
    have k4 := hC4.fz 1
    clear hw4 hCK3 hC3
    go_upto_region 6 with fail
    have t5 : Touch (fun k => k = c ∨ k = ckb) wc (w4.setCell ⟨c, 1, none⟩ (.slice (some ⟨ckb, 0, none⟩) 31 63)) := (t4.mono (fun _ _ h => .inr h)).setCell (fun _ => .inl rfl)
    have hC5 := hC4.set1 (.slice (some ⟨ckb, 0, none⟩) 31 63)
    have hCK5 := hCK4.touch ((Touch.refl (· = c) w4).setCell (o := 1) (v := .slice (some ⟨ckb, 0, none⟩) 31 63) (fun _ => rfl)) (fun h => d10 h.symm)
    clear hcl k1 k2 k3 k4 hC4 hCK4 t4
    generalize w4.setCell ⟨c, 1, none⟩ (.slice (some ⟨ckb, 0, none⟩) 31 63) = w5 at *
    have hN5 := hN3.touch t5 (fun h => h.elim d3 d4)
    have hK5 := hK3.touch t5 (fun h => h.elim d6 d7)
    have hX5 := hX3.touch t5 (fun h => h.elim d8 d9)
    have nq5 := nq.touch t5 (fun h => h.elim (fun e => e1 c lc e.symm) (fun e => e1 ckb lckb e.symm))
    have vq5 := vq.touch t5 (fun h => h.elim (fun e => e2 c lc e.symm) (fun e => e2 ckb lckb e.symm))
    have a5 := a3.trans t5 (fun x hx h => h.elim (fun e => .inr (.inr (.inr (.inl e)))) (fun e => .inr (.inr (.inr (.inr e)))))
    clear hN3 hK3 hX3 nq vq t5 a3
    have m1 := hC5.c2
    have m2 := hN5.c1
    have hi' : (i : Nat) ≤ (ks.map Value.string).length := by simpa using hki
    have z5 := a5.size
    have CI := fun (W : World) hV hv => insertStr kb 63 i w5.heap.size (ks.map Value.string) (.string m) W hV hi' (by simp; omega) (by omega) hv (by have := hK5.lt; omega) (str_one ks) rfl
    rw [List.length_map] at CI
    have vK : Vec (w5.alloc (.cells #[.string m] 9)) kb 9 63 (ks.map .string) := hK5.touch ((Touch.refl (fun _ => False) w5).alloc _) (fun h => h)
    have vv : Vec (w5.alloc (.cells #[.string m] 9)) w5.heap.size 9 1 [.string m] := vec_one w5 _ 9
    go_upto_region 11 with (go_at_call 37; refine (CI _ vK vv).mono ?_; rintro e w6 ⟨rfl, hK6, t6⟩; have l6 := (hN5.touch (((Touch.refl (· = kb) w5).alloc _).trans t6 (fun _ _ h => h)) d1).c1; have f6 := (hN5.touch (((Touch.refl (· = kb) w5).alloc _).trans t6 (fun _ _ h => h)) d1).fz 1)
    have s6 : Touch (fun k => k = p ∨ k = kb) w5 (w6.setCell ⟨p, 1, none⟩ (.slice (some ⟨kb, 0, none⟩) (ks.length + 1) 63)) := ((((Touch.refl (· = kb) w5).alloc _).trans t6 (fun _ _ h => h)).mono (fun _ _ h => .inr h)).setCell (fun _ => .inl rfl)
    have hN6 := (hN5.touch (((Touch.refl (· = kb) w5).alloc _).trans t6 (fun _ _ h => h)) d1).set1 (.slice (some ⟨kb, 0, none⟩) (ks.length + 1) 63)
    have hK7 := hK6.touch ((Touch.refl (· = p) w6).setCell (o := 1) (v := .slice (some ⟨kb, 0, none⟩) (ks.length + 1) 63) (fun _ => rfl)) (fun h => d1 h.symm)
    clear t6 hK6 l6 f6 vK vv CI m1 m2 hN5 hK5
    generalize w6.setCell ⟨p, 1, none⟩ (.slice (some ⟨kb, 0, none⟩) (ks.length + 1) 63) = w7 at *
    have hX7 := hX5.touch s6 (fun h => h.elim (fun e => d2 e.symm) (fun e => d5 e.symm))
    have hC7 := hC5.touch s6 (fun h => h.elim (fun e => d3 e.symm) (fun e => d6 e.symm))
    have hCK7 := hCK5.touch s6 (fun h => h.elim (fun e => d4 e.symm) (fun e => d7 e.symm))
    have nq7 := nq5.touch s6 (fun h => h.elim (fun e => e1 p lp e.symm) (fun e => e1 kb lkb e.symm))
    have vq7 := vq5.touch s6 (fun h => h.elim (fun e => e2 p lp e.symm) (fun e => e2 kb lkb e.symm))
    have a7 := a5.trans s6 (fun x hx h => h.elim (fun e => .inl e) (fun e => .inr (.inl e)))
    clear hX5 hC5 hCK5 nq5 vq5 s6 a5
    have m1 := hN6.c2
    have hxi : i + 1 ≤ xs.length := hil
    have CI := fun (W : World) hV hv => insertPtr cb 64 (i + 1) w7.heap.size xs (.pointer (some ⟨q, 0, none⟩)) W hV hxi (by omega) (by omega) hv (by have := hX7.lt; omega) h1 rfl
    have eI : ((i + 1 : Nat) : Int) = (i : Int) + 1 := by omega
    rw [eI] at CI
    have vX : Vec (w7.alloc (.cells #[.pointer (some ⟨q, 0, none⟩)] 55)) cb 55 64 xs := hX7.touch ((Touch.refl (fun _ => False) w7).alloc _) (fun h => h)
    have vv : Vec (w7.alloc (.cells #[.pointer (some ⟨q, 0, none⟩)] 55)) w7.heap.size 55 1 [.pointer (some ⟨q, 0, none⟩)] := vec_one w7 _ 55
    clear eI
    go_wp2_with (go_at_call 38; refine (CI _ vX vv).mono ?_; rintro e w8 ⟨rfl, hX8, t8⟩; have l8 := (hN6.touch (((Touch.refl (· = cb) w7).alloc _).trans t8 (fun _ _ h => h)) d2).c2; have f8 := (hN6.touch (((Touch.refl (· = cb) w7).alloc _).trans t8 (fun _ _ h => h)) d2).fz 2)
    have s8 : Touch (· = cb) w7 w8 := ((Touch.refl (· = cb) w7).alloc _).trans t8 (fun _ _ h => h)
    have s9 : Touch (fun k => k = p ∨ k = cb) w7 (w8.setCell ⟨p, 2, none⟩ (.slice (some ⟨cb, 0, none⟩) (xs.length + 1) 64)) := (s8.mono (fun _ _ h => .inr h)).setCell (fun _ => .inl rfl)
    have r9 : Touch (· = p) w8 (w8.setCell ⟨p, 2, none⟩ (.slice (some ⟨cb, 0, none⟩) (xs.length + 1) 64)) := (Touch.refl (· = p) w8).setCell (fun _ => rfl)
    go_end0
    refine ⟨rfl, q, qb, q4, q5, q3, nq7.touch s9 (fun h => h.elim (fun e => e1 p lp e.symm) (fun e => e1 cb lcb e.symm)), ?_, hC7.touch s9 (fun h => h.elim (fun e => d3 e.symm) (fun e => d8 e.symm)), hCK7.touch s9 (fun h => h.elim (fun e => d4 e.symm) (fun e => d9 e.symm)), (hN6.touch s8 d2).set2 _, ?_, hX8.touch r9 (fun h => d2 h.symm), a7.trans s9 (fun x hx h => h.elim (fun e => .inl e) (fun e => .inr (.inr (.inl e))))⟩
    · rw [← hnews]; exact vq7.touch s9 (fun h => h.elim (fun e => e2 p lp e.symm) (fun e => e2 cb lcb e.symm))
    · have hk := hK7.touch s9 (fun h => h.elim (fun e => d1 e.symm) d5)
      rw [List.map_append, List.map_take, List.map_cons, List.map_drop]
      exact hk
end Go.Proofs.Ybulkbhty.Tree
