import Derived.Test.YbulkbhtyT14
namespace Go.Proofs.Ybulkbhty.Tree
open Go.RowKit Go.WideShapes Go.Lib

theorem append_none71 (w : World) (ty : TypeId) : (Builtin.append_ #[71, 71] ty #[.slice none 0 0, .slice none 0 0]).run Yba.prog w = .ok (.slice none 0 0) w := by
  obtain ⟨i0, hi0, hz1⟩ := parts55
  simp [Builtin.append_, run_underlying Yba.underlying71, sizeOf, typeInfo, hi0, Builtin.lenOf, Builtin.firstCells]

theorem cut_mid {α : Type} (X : List α) (y : α) (Y : List α) : (X ++ y :: Y).take X.length ++ (X ++ y :: Y).drop (X.length + 1) = X ++ Y := by
  rw [List.take_left, show X ++ y :: Y = (X ++ [y]) ++ Y by simp, List.drop_left' (by simp)]

set_option maxHeartbeats 4000000 in
set_option maxRecDepth 100000 in
theorem merge_root (S : Nat) (r : Rt) (A C : List Lf) (l1 l2 : Lf) (P Q : List Key) (m : Key) (w : World) (hO : w.cell? ⟨S, 4, none⟩ = some (.pointer none)) (h : RootAt w r) (hcs : r.cs = A ++ l1 :: l2 :: C) (hks : r.ks = P ++ m :: Q) (hAP : A.length = P.length) (hsum : l1.ks.length + 1 + l2.ks.length ≤ 63) :
    Calls Yba.prog 44 #[.pointer (some ⟨S, 2, none⟩), .pointer (some ⟨r.p, 0, none⟩), .int .i64 (P.length : Int)] w fun e w' => e = .returned (.pointer (some ⟨l1.p, 0, none⟩)) ∧
      RootAt w' { r with ks := P ++ Q, cs := A ++ { l1 with ks := l1.ks ++ m :: l2.ks } :: C } ∧ Touch (· ∈ seven r l1 l2) w w' := by
  have ap := pair_apart hcs h.nd
  have hA1 := h.leaf l1 (by rw [hcs]; simp)
  have hA2 := h.leaf l2 (by rw [hcs]; simp)
  have hN := h.node
  have hK := h.keys
  have hX := h.kids
  have hl := h.len
  have fin := fun w' ks1 ks' ht hN hK hX hl1 hlen => RootAt.joined (w' := w') h hcs ks1 ks' ht hN hK hX hl1 hlen
  have hk63 : r.ks.length ≤ 63 := by obtain ⟨f, _, h, _⟩ := hK; simpa using h
  have hcl : r.cs.length ≤ 64 := by obtain ⟨f, _, h, _⟩ := hX; simpa using h
  have hP62 : P.length ≤ 62 := by rw [hks] at hk63; simp at hk63; omega
  have hc1 : (r.cs.map Lf.ptr)[P.length]? = some (.pointer (some ⟨l1.p, 0, none⟩)) := by rw [hcs, ← hAP]; simp [Lf.ptr]
  have hc2 : (r.cs.map Lf.ptr)[P.length + 1]? = some (.pointer (some ⟨l2.p, 0, none⟩)) := by rw [hcs, ← hAP, List.map_append, List.getElem?_append_right (by simp)]; simp [Lf.ptr]
  have hk1 : (r.ks.map Value.string)[P.length]? = some (.string m) := by rw [hks]; simp
  obtain ⟨p, kb, cb, rk, cs⟩ := r
  obtain ⟨a, ab, k1⟩ := l1
  obtain ⟨b, bb, k2⟩ := l2
  simp only at hN hK hX hl fin hk63 hcl hc1 hc2 hk1 hsum hcs hks ⊢
  obtain ⟨⟨d1, d2, d3, d4, d5, d6⟩, ⟨d7, d8, d9, d10, d11⟩, ⟨d12, d13, d14, d15⟩, ⟨d16, d17, d18⟩, ⟨d19, d20⟩, d21⟩ : (p ≠ kb ∧ p ≠ cb ∧ p ≠ a ∧ p ≠ ab ∧ p ≠ b ∧ p ≠ bb) ∧ (kb ≠ cb ∧ kb ≠ a ∧ kb ≠ ab ∧ kb ≠ b ∧ kb ≠ bb) ∧ (cb ≠ a ∧ cb ≠ ab ∧ cb ≠ b ∧ cb ≠ bb) ∧ (a ≠ ab ∧ a ≠ b ∧ a ≠ bb) ∧ (ab ≠ b ∧ ab ≠ bb) ∧ b ≠ bb := by simpa [seven] using ap.1
  have CH := fun W hO' hN' hV' hC' => child_any S p cb P.length (.slice (some ⟨kb, 0, none⟩) rk.length 63) (cs.map Lf.ptr) a (.slice (some ⟨ab, 0, none⟩) k1.length 63) (.slice none 0 0) W hO' hN' hV' hc1 hC'
  rw [List.length_map] at CH
  have c2 := hN.c2
  have ci := hX.cell hc2
  have i1 : (P.length : Int) + 1 < (cs.length : Int) := by rw [hcs]; simp; omega
  have i0' : (0 : Int) ≤ (P.length : Int) + 1 := by omega
  have i2 : (P.length : Int) < (rk.length : Int) := by rw [hks]; simp; omega
  have hcs' : Hid (cs = A ++ ⟨a, ab, k1⟩ :: ⟨b, bb, k2⟩ :: C) := hcs
  have hks' : Hid (rk = P ++ m :: Q) := hks
  have hl' : Hid (cs.length = rk.length + 1) := hl
  clear hcs hks hl
  go_enter Yba.func44, Yba.ntmps44
  go_wp2_with fail
  go_quiet (first | (go_at_call 39; refine Calls.quiet_of (CH _ ?_ ?_ ?_ ?_); (exact hO); (exact hN); (exact hX); (exact hA1.node)))
  go_upto_region 2 with fail
  have t1 : Touch (· ∈ seven ⟨p, kb, cb, rk, cs⟩ ⟨a, ab, k1⟩ ⟨b, bb, k2⟩) w (w.drewN nq) := (Touch.refl _ w).drewN nq
  have u1 : Touch (fun _ => False) w (w.drewN nq) := (Touch.refl _ w).drewN nq
  replace hN := hN.touch u1 id
  replace hK := hK.touch u1 id
  replace hX := hX.touch u1 id
  replace hA1 := hA1.touch u1 id id
  replace hA2 := hA2.touch u1 id id
  clear CH c2 ci u1
  generalize w.drewN nq = w1 at *
  obtain ⟨i0, hi0, hz1⟩ := parts9
  have mixed : Yba.prog.follows .mixedOrders = true := by kernel_rfl
  have ba : Touch (fun _ => False) w1 (w1.alloc (.cells #[.string m] 9)) := (Touch.refl (fun _ => False) w1).alloc _
  have f1 := hA1.node.c1
  have f2 := hN.c1
  have f3 := hK.cell hk1
  have f4 := hA2.node.c1
  have f5 := (hA1.node.touch ba id).c1
  have f6 := (hA2.node.touch ba id).c1
  simp only at f1 f4 f5 f6
  obtain ⟨wb, hwb⟩ : ∃ wb, wb = (w1.alloc (.cells #[.string m] 9)).drew := ⟨_, rfl⟩
  have tb : Touch (fun _ => False) w1 wb := by rw [hwb]; exact ba.drew
  have vone : Vec wb w1.heap.size 9 1 [.string m] := by rw [hwb]; exact (vec_one w1 _ 9).touch (Touch.refl (fun _ => False) _).drew id
  have hVb := hA1.keys.touch tb id
  simp only at hVb
  obtain ⟨w2, hw2⟩ : ∃ w2, w2 = wb.setCells ab (0 + k1.length * 1) [.string m] := ⟨_, rfl⟩
  have t2 : Touch (· = ab) w1 w2 := by rw [hw2]; exact (tb.mono (G := (· = ab)) (fun _ _ e => e.elim)).setCells (fun _ => rfl) _ _
  have hV2 : Vec w2 ab 9 63 ((k1 ++ [m]).map .string) := by
    rw [hw2]
    have := Vec.append (w := wb) hVb [.string m] (by simp; omega)
    simpa using this
  obtain ⟨w3, hw3⟩ : ∃ w3, w3 = w2.setCells ab (0 + (k1.length + 1) * 1) (k2.map .string) := ⟨_, rfl⟩
  have t3 : Touch (· = ab) w1 w3 := by rw [hw3]; exact t2.setCells (fun _ => rfl) _ _
  have hV3 : Vec w3 ab 9 63 ((k1 ++ m :: k2).map .string) := by
    rw [hw3]
    have := Vec.append (w := w2) hV2 (k2.map .string) (by simp; omega)
    simpa using this
  have hA22 := hA2.touch t2 (fun e => d19 e.symm) (fun e => d20 e.symm)
  have f7 := hA22.node.c1
  simp only at f7
  have f8 := (hA1.node.touch t3 d16).c1
  have f9 := (hA1.node.touch t3 d16).fz 1
  simp only at f8 f9
  have s1 : Hid (([.string m] : List Value).length = 1 * 1) := rfl
  have hsrc : Hid (∀ t u, ([.string m] : List Value)[t]? = some u → wb.cell? ((⟨w1.heap.size, 0, none⟩ : Addr).add t) = some u) := fun t u hu => by
    rw [Addr.add_lit]
    refine vone.cell ?_
    simpa using hu
  have s2 : Hid (∀ u ∈ ([.string m] : List Value), u.oneCell' = true) := fun u hu => by simp at hu; subst hu; rfl
  have s3 : Hid (∀ t, t < ([.string m] : List Value).length → (wb.cell? ⟨ab, 0 + k1.length * 1 + t, none⟩).isSome = true ∧ wb.frozen? ⟨ab, 0 + k1.length * 1 + t, none⟩ = false) := fun t ht => ⟨hVb.some (by simp at ht; omega), hVb.frozen _⟩
  have x1 : Hid ((k2.map Value.string).length = k2.length * 1) := by show _ = _; simp
  have xsrc : Hid (∀ t u, (k2.map Value.string)[t]? = some u → w2.cell? ((⟨bb, 0, none⟩ : Addr).add t) = some u) := fun t u hu => by
    rw [Addr.add_lit]
    refine hA22.keys.cell ?_
    simpa using hu
  have x2 : Hid (∀ u ∈ k2.map Value.string, u.oneCell' = true) := str_one k2
  have x3 : Hid (∀ t, t < (k2.map Value.string).length → (w2.cell? ⟨ab, 0 + (k1.length + 1) * 1 + t, none⟩).isSome = true ∧ w2.frozen? ⟨ab, 0 + (k1.length + 1) * 1 + t, none⟩ = false) := fun t ht => ⟨hV2.some (by simp at ht; omega), hV2.frozen _⟩
  rw [hwb] at hsrc s3 hw2
  have hW2 : Hid (w2 = (w1.alloc (.cells #[.string m] 9)).drew.setCells ab (0 + k1.length * 1) [.string m]) := hw2
  have hW3 : Hid (w3 = w2.setCells ab (0 + (k1.length + 1) * 1) (k2.map .string)) := hw3
  clear hw2 hw3 hwb tb vone hVb ba
  have r1 : k1.length + 1 ≤ 63 := by omega
  have r2 : k1.length + 1 + k2.length ≤ 63 := by omega
  go_cut [7] from 21 to 41 (fun v wx => v = .pointer (some ⟨a, 0, none⟩) ∧ wx = w3.setCell ⟨a, 1, none⟩ (.slice (some ⟨ab, 0, none⟩) (k1.length + 1 + k2.length) 63))
  case first =>
    go_region_law_o (first | (refine step_append_room rfl (.tmp 25) (.tmp 33) 70 rfl 9 i0 1 Yba.underlying70 hi0 hz1 ab 0 k1.length 63 (by simp [Act.eval]) ⟨w1.heap.size, 0, none⟩ 1 1 [.string m] (by simp [Act.eval]) s1.out hsrc.out s2.out r1 s3.out ?_; rw [← hW2.out]) | (refine step_append_room rfl (.tmp 34) (.tmp 38) 70 rfl 9 i0 1 Yba.underlying70 hi0 hz1 ab 0 (k1.length + 1) 63 (by simp [Act.eval]) ⟨bb, 0, none⟩ k2.length 63 (k2.map .string) (by simp [Act.eval]) x1.out xsrc.out x2.out r2 x3.out ?_; rw [← hW3.out]))
    all_goals (go_wp2_with fail; go_meet; exact ⟨rfl, rfl⟩)
  case rest =>
    obtain ⟨rfl, hwc⟩ := hcut
    have tc : Touch (fun x => x = a ∨ x = ab) w1 wc := by rw [hwc]; exact (t3.mono (fun _ _ h => .inr h)).setCell (fun _ => .inl rfl)
    have hA1c : LeafAt wc ⟨a, ab, k1 ++ m :: k2⟩ := by
      rw [hwc]
      refine ⟨?_, hV3.touch ((Touch.refl (· = a) w3).setCell (fun _ => rfl)) (fun e => d16 e.symm), d16⟩
      have hh := (hA1.node.touch t3 d16).set1 (.slice (some ⟨ab, 0, none⟩) (k1.length + 1 + k2.length) 63)
      have e : (k1 ++ m :: k2).length = k1.length + 1 + k2.length := by simp; omega
      simp only [e]
      exact hh
    replace hN := hN.touch tc (fun e => e.elim d3 d4)
    replace hK := hK.touch tc (fun e => e.elim d8 d9)
    replace hX := hX.touch tc (fun e => e.elim d12 d13)
    replace hA2 := hA2.touch tc (fun e => e.elim (fun e => d17 e.symm) (fun e => d19 e.symm)) (fun e => e.elim (fun e => d18 e.symm) (fun e => d20 e.symm))
    have a1 := t1.trans tc (fun x _ e => by rcases e with rfl | rfl <;> simp [seven])
    clear hwc hA1 hV2 hV3 hA22 t1 t2 t3 tc f1 f2 f3 f4 f5 f6 f7 f8 f9 s1 hsrc s2 s3 x1 xsrc x2 x3 hW2 hW3 i0 hi0 hz1 mixed
    have g1 := hA1c.node.c2
    have g2 := hA2.node.c2
    have g3 := hA1c.node.fz 2
    simp only at g1 g2 g3
    have hss : wc.setCell ⟨a, 2, none⟩ (.slice none 0 0) = wc := setCell_same g1
    have hap := append_none71
    go_wp2_with fail
    go_region_held3 (fun w' => (w'.cell? ⟨a, 2, none⟩ = some (.slice none 0 0) ∧ w'.cell? ⟨b, 2, none⟩ = some (.slice none 0 0))) (go_keep) (fail)
    go_upto_region 4 with fail
    have u1 : Touch (fun _ => False) wc wc.drew := (Touch.refl _ wc).drew
    replace hN := hN.touch u1 id
    replace hK := hK.touch u1 id
    replace hX := hX.touch u1 id
    replace hA1c := hA1c.touch u1 id id
    replace a1 := a1.trans u1 (fun _ _ e => e.elim)
    clear hss g1 g2 g3 hap u1
    generalize wc.drew = w4 at *
    have DK := fun W hV => deleteStr kb 63 P.length (rk.map .string) W hV (by simp; omega) (str_one rk)
    rw [List.length_map] at DK
    have f1 := hN.c1
    go_upto_region 5 with (go_at_call 40; refine (DK _ hK).mono ?_; rintro e w5 ⟨rfl, hK5, t5⟩; have f2 := (hN.touch t5 d1).fz 1; have f3 := (hN.touch t5 d1).c1)
    have t6 : Touch (fun x => x = p ∨ x = kb) w4 (w5.setCell ⟨p, 1, none⟩ (.slice (some ⟨kb, 0, none⟩) (rk.length - 1) 63)) := (t5.mono (fun _ _ e => .inr e)).setCell (fun _ => .inl rfl)
    have hN6 := (hN.touch t5 d1).set1 (.slice (some ⟨kb, 0, none⟩) (rk.length - 1) 63)
    have hK6 := hK5.touch ((Touch.refl (· = p) w5).setCell (o := 1) (v := .slice (some ⟨kb, 0, none⟩) (rk.length - 1) 63) (fun _ => rfl)) (fun e => d1 e.symm)
    clear f1 f2 f3 hN hK hK5 DK t5
    generalize w5.setCell ⟨p, 1, none⟩ (.slice (some ⟨kb, 0, none⟩) (rk.length - 1) 63) = w6 at *
    replace hX := hX.touch t6 (fun e => e.elim (fun e => d2 e.symm) (fun e => d7 e.symm))
    replace hA1c := hA1c.touch t6 (fun e => e.elim (fun e => d3 e.symm) (fun e => d8 e.symm)) (fun e => e.elim (fun e => d4 e.symm) (fun e => d9 e.symm))
    replace a1 := a1.trans t6 (fun x _ e => by rcases e with rfl | rfl <;> simp [seven])
    clear t6
    have DP := fun W hV => deletePtr cb 64 (P.length + 1) (cs.map Lf.ptr) W hV (by simp; omega) (ptr_one cs)
    rw [List.length_map, show ((P.length + 1 : Nat) : Int) = (P.length : Int) + 1 by omega, show (P.length : Int) + 1 + 1 = (P.length : Int) + 2 by omega] at DP
    have f1 := hN6.c2
    go_wp2_with (go_at_call 51; refine (DP _ hX).mono ?_; rintro e w7 ⟨rfl, hX7, t7⟩; have f2 := (hN6.touch t7 d2).fz 2; have f3 := (hN6.touch t7 d2).c2)
    go_ret
    have t8 : Touch (fun x => x = p ∨ x = cb) w6 (w7.setCell ⟨p, 2, none⟩ (.slice (some ⟨cb, 0, none⟩) (cs.length - 1) 64)) := (t7.mono (fun _ _ e => .inr e)).setCell (fun _ => .inl rfl)
    have hN8 := (hN6.touch t7 d2).set2 (.slice (some ⟨cb, 0, none⟩) (cs.length - 1) 64)
    have hX8 := hX7.touch ((Touch.refl (· = p) w7).setCell (o := 2) (v := .slice (some ⟨cb, 0, none⟩) (cs.length - 1) 64) (fun _ => rfl)) (fun e => d2 e.symm)
    replace hK6 := hK6.touch t8 (fun e => e.elim (fun e => d1 e.symm) d7)
    replace hA1c := hA1c.touch t8 (fun e => e.elim (fun e => d3 e.symm) (fun e => d12 e.symm)) (fun e => e.elim (fun e => d4 e.symm) (fun e => d13 e.symm))
    replace a1 := a1.trans t8 (fun x _ e => by rcases e with rfl | rfl <;> simp [seven])
    have hcs := hcs'.out
    have hks := hks'.out
    refine ⟨rfl, fin _ (k1 ++ m :: k2) (P ++ Q) a1 ?_ ?_ ?_ hA1c (by rw [hks]; simp; omega), a1⟩
    · rw [show (P ++ Q).length = rk.length - 1 by rw [hks]; simp, show A.length + C.length + 1 = cs.length - 1 by rw [hcs]; simp; omega]
      exact hN8
    · rw [show (rk.map Value.string).take P.length ++ (rk.map Value.string).drop (P.length + 1) = (P ++ Q).map .string by
        have e := cut_mid (P.map Value.string) (.string m) (Q.map Value.string)
        rw [hks]; simpa using e] at hK6
      exact hK6
    · rw [show (cs.map Lf.ptr).take (P.length + 1) ++ (cs.map Lf.ptr).drop (P.length + 1 + 1) = (A ++ ⟨a, ab, k1⟩ :: C).map Lf.ptr by
        have e := cut_mid ((A ++ [(⟨a, ab, k1⟩ : Lf)]).map Lf.ptr) (Lf.ptr ⟨b, bb, k2⟩) (C.map Lf.ptr)
        rw [hcs]; simpa [hAP] using e] at hX8
      exact hX8
end Go.Proofs.Ybulkbhty.Tree
