import Derived.Test.YbulkbhtyT16
namespace Go.Proofs.Ybulkbhty.Tree
open Go.RowKit Go.WideShapes Go.Lib

/-- The left neighbour can spare nothing, or there is none. -/
def NoLeft (A : List Lf) : Prop := A = [] ∨ ∃ A0 a, A = A0 ++ [a] ∧ a.ks.length < 32

theorem NoLeft.cells {A C : List Lf} {r : Rt} {w : World} (h : NoLeft A) (hR : RootAt w r) (hcs : r.cs = A ++ C) : A.length = 0 ∨ ∃ a c n k : Nat, A.length = n + 1 ∧ w.cell? ⟨r.cb, n, none⟩ = some (.pointer (some ⟨a, 0, none⟩)) ∧ w.cell? ⟨a, 1, none⟩ = some (.slice (some ⟨c, 0, none⟩) k 63) ∧ k < 32 := by
  rcases h with rfl | ⟨A0, a, rfl, hk⟩
  · exact .inl rfl
  · refine .inr ⟨a.p, a.kb, A0.length, a.ks.length, by simp, hR.kids.cell ?_, (hR.leaf a (by rw [hcs]; simp)).node.c1, hk⟩
    rw [hcs]
    simp [Lf.ptr]

set_option maxHeartbeats 4000000 in
set_option maxRecDepth 100000 in
theorem fill_right (S : Nat) (r : Rt) (A C : List Lf) (l1 l2 : Lf) (P Q R : List Key) (m x : Key) (w : World) (hO : w.cell? ⟨S, 4, none⟩ = some (.pointer none)) (h : RootAt w r) (hs : Sizes r.cs) (hcs : r.cs = A ++ l1 :: l2 :: C) (hks : r.ks = P ++ m :: Q) (hAP : A.length = P.length) (hno : NoLeft A) (h31 : l1.ks.length = 31) (hx : l2.ks = x :: R) (hR : 31 ≤ R.length) :
    Calls Yba.prog 41 #[.pointer (some ⟨S, 2, none⟩), .pointer (some ⟨r.p, 0, none⟩), .int .i64 (P.length : Int)] w fun e w' => ∃ r1 A' l' C' P' Q', e = .returned (.pointer (some ⟨l'.p, 0, none⟩)) ∧ Filled r w l1 r1 A' l' C' P' Q' w' := by
  have ap := pair_apart hcs h.nd
  have hA1 := h.leaf l1 (by rw [hcs]; simp)
  have hA2 := h.leaf l2 (by rw [hcs]; simp)
  have hN := h.node
  have hK := h.keys
  have hX := h.kids
  have fin : ∀ w', Touch (· ∈ seven r l1 l2) w w' → NodeAt w' r.p (.slice (some ⟨r.kb, 0, none⟩) r.ks.length 63) (.slice (some ⟨r.cb, 0, none⟩) r.cs.length 64) → Vec w' r.kb 9 63 ((P ++ x :: Q).map .string) → Vec w' r.cb 55 64 (r.cs.map Lf.ptr) → LeafAt w' { l1 with ks := l1.ks ++ [m] } → LeafAt w' { l2 with ks := R } →
      ∃ r1 A' l' C' P' Q', (Ending.returned (.pointer (some ⟨l1.p, 0, none⟩))) = .returned (.pointer (some ⟨l'.p, 0, none⟩)) ∧ Filled r w l1 r1 A' l' C' P' Q' w' := fun w' ht hN' hK' hX' h1' h2' => by
    have hR' := RootAt.pair (w' := w') h hcs (l1.ks ++ [m]) R (P ++ x :: Q) ht (by rw [show (P ++ x :: Q).length = r.ks.length by rw [hks]; simp]; exact hN') hK' hX' h1' h2' (by rw [hks]; simp)
    have hs' := hs
    rw [hcs] at hs'
    refine ⟨_, A, { l1 with ks := l1.ks ++ [m] }, { l2 with ks := R } :: C, P, x :: Q, rfl, rfl, rfl, hAP, by simp [h31], fun y hy => by simp [hy], ?_, hR', rfl, ?_, ?_, ht.mono (fun y _ hy => seven_sub hcs y hy)⟩
    · rw [flat_leaf r A (l2 :: C) l1 P (m :: Q) hcs hks hAP, flat_leaf { r with ks := P ++ x :: Q, cs := A ++ { l1 with ks := l1.ks ++ [m] } :: { l2 with ks := R } :: C } A ({ l2 with ks := R } :: C) { l1 with ks := l1.ks ++ [m] } P (x :: Q) rfl rfl hAP]
      simp [rest, flat_cons, hx]
    · intro l' hl'
      rcases List.mem_append.1 hl' with hm | hm
      · exact hs' l' (by simp [hm])
      · rcases List.mem_cons.1 hm with rfl | hm
        · simp [h31]
        · rcases List.mem_cons.1 hm with rfl | hm
          · have := hs' l2 (by simp)
            rw [hx] at this
            simp at this ⊢
            omega
          · exact hs' l' (by simp [hm])
    · intro b hb
      simp only [Rt.blocks, hcs, lblocks_append, lblocks_cons] at hb ⊢
      exact hb
  have hk63 : r.ks.length ≤ 63 := by obtain ⟨f, _, h, _⟩ := hK; simpa using h
  have hl63 : l2.ks.length ≤ 63 := (hs l2 (by rw [hcs]; simp)).2
  have hP62 : P.length ≤ 62 := by rw [hks] at hk63; simp at hk63; omega
  have hc1 : (r.cs.map Lf.ptr)[P.length]? = some (.pointer (some ⟨l1.p, 0, none⟩)) := by rw [hcs, ← hAP]; simp [Lf.ptr]
  have hc2 : (r.cs.map Lf.ptr)[P.length + 1]? = some (.pointer (some ⟨l2.p, 0, none⟩)) := by rw [hcs, ← hAP, List.map_append, List.getElem?_append_right (by simp)]; simp [Lf.ptr]
  have hk1 : (r.ks.map Value.string)[P.length]? = some (.string m) := by rw [hks]; simp
  have hx1 : (l2.ks.map Value.string)[0]? = some (.string x) := by rw [hx]; simp
  have hlx : l2.ks.length = R.length + 1 := by rw [hx]; simp
  have hno' := hno.cells h (C := l1 :: l2 :: C) hcs
  rw [hAP] at hno'
  obtain ⟨p, kb, cb, rk, cs⟩ := r
  obtain ⟨a, ab, k1⟩ := l1
  obtain ⟨b, bb, k2⟩ := l2
  simp only at hN hK hX fin hk63 hc1 hc2 hk1 hx1 hcs hks hx hlx h31 hl63 hno' ⊢
  obtain ⟨⟨d1, d2, d3, d4, d5, d6⟩, ⟨d7, d8, d9, d10, d11⟩, ⟨d12, d13, d14, d15⟩, ⟨d16, d17, d18⟩, ⟨d19, d20⟩, d21⟩ : (p ≠ kb ∧ p ≠ cb ∧ p ≠ a ∧ p ≠ ab ∧ p ≠ b ∧ p ≠ bb) ∧ (kb ≠ cb ∧ kb ≠ a ∧ kb ≠ ab ∧ kb ≠ b ∧ kb ≠ bb) ∧ (cb ≠ a ∧ cb ≠ ab ∧ cb ≠ b ∧ cb ≠ bb) ∧ (a ≠ ab ∧ a ≠ b ∧ a ≠ bb) ∧ (ab ≠ b ∧ ab ≠ bb) ∧ b ≠ bb := by simpa [seven] using ap.1
  have CH1 := fun W hO' hN' hV' hC' => child_any S p cb P.length (.slice (some ⟨kb, 0, none⟩) rk.length 63) (cs.map Lf.ptr) a (.slice (some ⟨ab, 0, none⟩) k1.length 63) (.slice none 0 0) W hO' hN' hV' hc1 hC'
  have CH2 := fun W hO' hN' hV' hC' => child_any S p cb (P.length + 1) (.slice (some ⟨kb, 0, none⟩) rk.length 63) (cs.map Lf.ptr) b (.slice (some ⟨bb, 0, none⟩) k2.length 63) (.slice none 0 0) W hO' hN' hV' hc2 hC'
  rw [List.length_map] at CH1 CH2
  rw [show ((P.length + 1 : Nat) : Int) = (P.length : Int) + 1 by omega] at CH2
  have c1 := hA1.node.c1
  have c2 := hN.c2
  have c3 := hX.cell hc2
  have c4 := hA2.node.c1
  have c5 := hN.c1
  simp only at c1 c4
  rw [hlx] at c4
  rw [h31] at c1
  have i1 : (P.length : Int) + 1 < (cs.length : Int) := by rw [hcs]; simp; omega
  have i0' : (0 : Int) ≤ (P.length : Int) + 1 := by omega
  have i2 : (P.length : Int) < (cs.length : Int) := by omega
  have i3 : (P.length : Int) < (rk.length : Int) := by rw [hks]; simp; omega
  have i5 : (32 : Int) ≤ ((R.length + 1 : Nat) : Int) := by omega
  have i6 : (R.length : Int) ≤ 62 := by omega
  have hks' : Hid (rk = P ++ m :: Q) := hks
  have hx' : Hid (k2 = x :: R) := hx
  have hlx' : Hid (k2.length = R.length + 1) := hlx
  have h31' : Hid (k1.length = 31) := h31
  have hn0 : Hid (P.length = 0 ∨ ∃ a c n k : Nat, P.length = n + 1 ∧ w.cell? ⟨cb, n, none⟩ = some (.pointer (some ⟨a, 0, none⟩)) ∧ w.cell? ⟨a, 1, none⟩ = some (.slice (some ⟨c, 0, none⟩) k 63) ∧ k < 32) := hno'
  clear hcs hks hx hlx h31 hno'
  go_enter Yba.func41, Yba.ntmps41
  go_upto_region 4 with (go_at_call 39; refine (CH1 _ (by exact hO) (by exact hN) (by exact hX) (by exact hA1.node)).mono ?_; rintro e w2 ⟨rfl, n, rfl⟩)
  go_cut [38] from 22 to 37 (fun v wx => v = .bool false ∧ wx = w.drewN n)
  case first =>
    rcases hn0.out with e0 | ⟨a', c', n', k', e0, q1, q2, q3⟩
    · have z1 : ¬ (0 : Int) < (P.length : Int) := by omega
      clear e0
      go_wp2_with fail
      go_meet
      exact ⟨rfl, rfl⟩
    · have z1 : (0 : Int) < (P.length : Int) := by omega
      have z2 : (P.length : Int) - 1 = (n' : Int) := by omega
      have z3 : (n' : Int) < (cs.length : Int) := by omega
      have z4 : ¬ (32 : Int) ≤ (k' : Int) := by omega
      clear e0
      go_wp2_with fail
      go_meet
      exact ⟨rfl, rfl⟩
  case rest =>
    obtain ⟨rfl, rfl⟩ := hcut
    go_upto_region 16 with (go_at_call 39; refine (CH2 _ (by exact hO) (by exact hN) (by exact hX) (by exact hA2.node)).mono ?_; rintro e w2 ⟨rfl, n2, rfl⟩)
    have t1 : Touch (· ∈ seven ⟨p, kb, cb, rk, cs⟩ ⟨a, ab, k1⟩ ⟨b, bb, k2⟩) w (w.drewN (n + n2)) := (Touch.refl _ w).drewN _
    have u1 : Touch (fun _ => False) w (w.drewN (n + n2)) := (Touch.refl _ w).drewN _
    replace hN := hN.touch u1 id
    replace hK := hK.touch u1 id
    replace hX := hX.touch u1 id
    replace hA1 := hA1.touch u1 id id
    replace hA2 := hA2.touch u1 id id
    clear CH1 CH2 c1 c2 c3 c4 c5 u1 hn0
    generalize w.drewN (n + n2) = w1 at *
    obtain ⟨i0, hi0, hz1⟩ := parts9
    have mixed : Yba.prog.follows .mixedOrders = true := by kernel_rfl
    have hB : NodeAt w1 a (.slice (some ⟨ab, 0, none⟩) 31 63) (.slice none 0 0) := by have e := hA1.node; simp only [h31'.out] at e; exact e
    have ba : Touch (fun _ => False) w1 (w1.alloc (.cells #[.string m] 9)) := (Touch.refl (fun _ => False) w1).alloc _
    have f1 := hB.c1
    have f2 := hN.c1
    have f3 := hK.cell hk1
    have f5 := (hB.touch ba id).c1
    obtain ⟨wb, hwb⟩ : ∃ wb, wb = (w1.alloc (.cells #[.string m] 9)).drew := ⟨_, rfl⟩
    have tb : Touch (fun _ => False) w1 wb := by rw [hwb]; exact ba.drew
    have vone : Vec wb w1.heap.size 9 1 [.string m] := by rw [hwb]; exact (vec_one w1 _ 9).touch (Touch.refl (fun _ => False) _).drew id
    have hVb := hA1.keys.touch tb id
    simp only at hVb
    obtain ⟨w2, hw2⟩ : ∃ w2, w2 = wb.setCells ab (0 + 31 * 1) [.string m] := ⟨_, rfl⟩
    have t2 : Touch (· = ab) w1 w2 := by rw [hw2]; exact (tb.mono (G := (· = ab)) (fun _ _ e => e.elim)).setCells (fun _ => rfl) _ _
    have hV2 : Vec w2 ab 9 63 ((k1 ++ [m]).map .string) := by
      rw [hw2]
      have := Vec.append (w := wb) hVb [.string m] (by simp [h31'.out])
      simpa [h31'.out] using this
    have f8 := (hB.touch t2 d16).c1
    have f9 := (hB.touch t2 d16).fz 1
    have s1 : Hid (([.string m] : List Value).length = 1 * 1) := rfl
    have hsrc : Hid (∀ t u, ([.string m] : List Value)[t]? = some u → wb.cell? ((⟨w1.heap.size, 0, none⟩ : Addr).add t) = some u) := fun t u hu => by
      rw [Addr.add_lit]
      refine vone.cell ?_
      simpa using hu
    have s2 : Hid (∀ u ∈ ([.string m] : List Value), u.oneCell' = true) := fun u hu => by simp at hu; subst hu; rfl
    have s3 : Hid (∀ t, t < ([.string m] : List Value).length → (wb.cell? ⟨ab, 0 + 31 * 1 + t, none⟩).isSome = true ∧ wb.frozen? ⟨ab, 0 + 31 * 1 + t, none⟩ = false) := fun t ht => ⟨hVb.some (by simp at ht; omega), hVb.frozen _⟩
    rw [hwb] at hsrc s3 hw2
    have hW2 : Hid (w2 = (w1.alloc (.cells #[.string m] 9)).drew.setCells ab (0 + 31 * 1) [.string m]) := hw2
    clear hw2 hwb tb vone hVb ba
    go_cut [7] from 154 to 169 (fun v wx => v = .pointer (some ⟨a, 0, none⟩) ∧ wx = w2.setCell ⟨a, 1, none⟩ (.slice (some ⟨ab, 0, none⟩) 32 63))
    case first =>
      go_region_law_o (refine step_append_room rfl (.tmp 158) (.tmp 166) 70 rfl 9 i0 1 Yba.underlying70 hi0 hz1 ab 0 31 63 (by simp [Act.eval]) ⟨w1.heap.size, 0, none⟩ 1 1 [.string m] (by simp [Act.eval]) s1.out hsrc.out s2.out (by omega) s3.out ?_; rw [← hW2.out])
      all_goals (go_wp2_with fail; go_meet; exact ⟨rfl, rfl⟩)
    case rest =>
      obtain ⟨rfl, hwc⟩ := hcut
      have tc : Touch (fun x => x = a ∨ x = ab) w1 wc := by rw [hwc]; exact (t2.mono (fun _ _ h => .inr h)).setCell (fun _ => .inl rfl)
      have hA1c : LeafAt wc ⟨a, ab, k1 ++ [m]⟩ := by
        rw [hwc]
        refine ⟨?_, hV2.touch ((Touch.refl (· = a) w2).setCell (fun _ => rfl)) (fun e => d16 e.symm), d16⟩
        have hh := (hB.touch t2 d16).set1 (.slice (some ⟨ab, 0, none⟩) 32 63)
        have e : (k1 ++ [m]).length = 32 := by simp [h31'.out]
        simp only [e]
        exact hh
      replace hN := hN.touch tc (fun e => e.elim d3 d4)
      replace hK := hK.touch tc (fun e => e.elim d8 d9)
      replace hX := hX.touch tc (fun e => e.elim d12 d13)
      replace hA2 := hA2.touch tc (fun e => e.elim (fun e => d17 e.symm) (fun e => d19 e.symm)) (fun e => e.elim (fun e => d18 e.symm) (fun e => d20 e.symm))
      have a1 := t1.trans tc (fun x _ e => by rcases e with rfl | rfl <;> simp [seven])
      clear hwc hA1 hB hV2 t1 t2 tc f1 f2 f3 f5 f8 f9 s1 hsrc s2 s3 hW2 i0 hi0 hz1 mixed
      have hB : NodeAt wc b (.slice (some ⟨bb, 0, none⟩) (R.length + 1) 63) (.slice none 0 0) := by have e := hA2.node; simp only [hlx'.out] at e; exact e
      have f1 := hN.c1
      have f2 := hB.c1
      have f3 : wc.cell? ⟨bb, 0, none⟩ = some (.string x) := hA2.keys.cell hx1
      have f4 := hK.cell hk1
      have f5 := hK.frozen P.length
      have e1 := d10.symm
      have e2 := d11.symm
      have e3 := d1.symm
      have b1 : (0 : Int) < ((R.length + 1 : Nat) : Int) := by omega
      have b2 : (0 : Int) < (R.length : Int) + 1 := by omega
      go_wp2_with fail
      go_region_held3 (fun w' => (w'.cell? ⟨p, 1, none⟩ = some (.slice (some ⟨kb, 0, none⟩) rk.length 63) ∧ w'.cell? ⟨b, 1, none⟩ = some (.slice (some ⟨bb, 0, none⟩) (R.length + 1) 63) ∧ w'.cell? ⟨bb, 0, none⟩ = some (.string x))) (go_keep) (fail)
      go_upto_region 18 with fail
      have u2 : Touch (· = kb) wc (wc.setCell ⟨kb, P.length, none⟩ (.string x)).drew := ((Touch.refl (· = kb) wc).setCell (fun _ => rfl)).drew
      have hK2 : Vec (wc.setCell ⟨kb, P.length, none⟩ (.string x)).drew kb 9 63 ((P ++ x :: Q).map .string) := by
        rw [hks'.out, List.map_append, List.map_cons] at hK
        have e := hK.put (.string x)
        rw [List.length_map] at e
        have e2 := e.touch ((Touch.refl (fun _ => False) _).drew) id
        rw [List.map_append, List.map_cons]
        exact e2
      replace hN := hN.touch u2 d1
      replace hX := hX.touch u2 (fun e => d7 e.symm)
      replace hA1c := hA1c.touch u2 (fun e => d8 e.symm) (fun e => d9 e.symm)
      replace hB := hB.touch u2 (fun e => d10 e.symm)
      replace hA2 := hA2.touch u2 (fun e => d10 e.symm) (fun e => d11 e.symm)
      replace a1 := a1.trans u2 (fun x _ e => by subst e; simp [seven])
      clear f1 f2 f3 f4 f5 hK u2
      generalize (wc.setCell ⟨kb, P.length, none⟩ (.string x)).drew = w4 at *
      have DK := fun W hV => deleteStr bb 63 0 (k2.map .string) W hV (by simp [hlx'.out]) (str_one k2)
      rw [List.length_map, hlx'.out, Nat.add_sub_cancel, show ((0 : Nat) : Int) = 0 from rfl, show (0 : Int) + 1 = 1 from rfl] at DK
      have f1 := hB.c1
      have f2 := hA1c.node.c2
      simp only at f2
      have hsn := neq71
      go_wp2_with (go_at_call 40; refine (DK _ hA2.keys).mono ?_; rintro e w5 ⟨rfl, hK5, t5⟩; have l2 := (hB.touch t5 d21).fz 1; have l3 := (hB.touch t5 d21).c1; have l4 := (hA1c.node.touch t5 d18).c2; (try simp only at l4))
      go_ret
      have t6 : Touch (fun x => x = b ∨ x = bb) w4 (w5.setCell ⟨b, 1, none⟩ (.slice (some ⟨bb, 0, none⟩) R.length 63)) := (t5.mono (fun _ _ e => .inr e)).setCell (fun _ => .inl rfl)
      refine fin _ (a1.trans t6 (fun x _ e => by rcases e with rfl | rfl <;> simp [seven])) (hN.touch t6 (fun e => e.elim d5 d6)) (hK2.touch t6 (fun e => e.elim d10 d11)) (hX.touch t6 (fun e => e.elim d14 d15)) (hA1c.touch t6 (fun e => e.elim d17 d18) (fun e => e.elim d19 d20)) ⟨(hB.touch t5 d21).set1 _, ?_, d21⟩
      have hK7 := hK5.touch ((Touch.refl (· = b) w5).setCell (o := 1) (v := .slice (some ⟨bb, 0, none⟩) R.length 63) (fun _ => rfl)) (fun e => d21 e.symm)
      rw [show (k2.map Value.string).take 0 ++ (k2.map Value.string).drop (0 + 1) = R.map .string by
        rw [hx'.out]; simp] at hK7
      exact hK7
end Go.Proofs.Ybulkbhty.Tree
