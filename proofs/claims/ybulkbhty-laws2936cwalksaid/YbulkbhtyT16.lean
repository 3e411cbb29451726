import Derived.Test.YbulkbhtyT15
namespace Go.Proofs.Ybulkbhty.Tree
open Go.RowKit Go.WideShapes Go.Lib

theorem Vec.put {w : World} {b t cap : Nat} {X Y : List Value} {y : Value} (h : Vec w b t cap (X ++ y :: Y)) (v : Value) : Vec (w.setCell ⟨b, X.length, none⟩ v) b t cap (X ++ v :: Y) := by
  obtain ⟨f, hr, hl, hf⟩ := h
  refine ⟨_, World.rowIs.set hr X.length v, by simpa using hl, fun j u hj => ?_⟩
  by_cases e : j = X.length
  · subst e
    rw [List.getElem?_append_right (by omega)] at hj
    simp at hj
    simp [hj]
  · have hj' : (X ++ y :: Y)[j]? = Option.some u := by
      rcases Nat.lt_or_gt_of_ne e with h1 | h1
      · rw [List.getElem?_append_left h1] at hj ⊢
        exact hj
      · rw [List.getElem?_append_right (by omega)] at hj ⊢
        obtain ⟨d, hd⟩ : ∃ d, j - X.length = d + 1 := ⟨j - X.length - 1, by omega⟩
        rw [hd] at hj ⊢
        simpa using hj
    simp [e, hf j u hj']

/-- What fill leaves: the same keys, a child with a key to spare that holds all that child i held. -/
structure Filled (r : Rt) (w : World) (l : Lf) (r1 : Rt) (A' : List Lf) (l' : Lf) (C' : List Lf) (P' Q' : List Key) (w' : World) : Prop where
  cs : r1.cs = A' ++ l' :: C'
  ks : r1.ks = P' ++ Q'
  al : A'.length = P'.length
  ge : 32 ≤ l'.ks.length
  sub : ∀ x ∈ l.ks, x ∈ l'.ks
  fl : r1.flat = r.flat
  at1 : RootAt w' r1
  rp : r1.p = r.p
  sz : Sizes r1.cs
  bl : ∀ b ∈ r1.blocks, b ∈ r.blocks
  tc : Touch (· ∈ r.blocks) w w'

theorem seven_sub {r : Rt} {A C : List Lf} {l1 l2 : Lf} (hcs : r.cs = A ++ l1 :: l2 :: C) : ∀ x ∈ seven r l1 l2, x ∈ r.blocks := by
  intro x hx
  simp only [seven, Rt.blocks, hcs, lblocks_append, lblocks_cons, List.mem_cons, List.mem_append, List.not_mem_nil, or_false] at hx ⊢
  rcases hx with h | h | h | h | h | h | h <;> simp [h]

set_option maxHeartbeats 4000000 in
set_option maxRecDepth 100000 in
theorem fill_zero (S : Nat) (r : Rt) (A C : List Lf) (l : Lf) (P Q : List Key) (w : World) (hO : w.cell? ⟨S, 4, none⟩ = some (.pointer none)) (h : RootAt w r) (hs : Sizes r.cs) (hcs : r.cs = A ++ l :: C) (hks : r.ks = P ++ Q) (hAP : A.length = P.length) (h32 : 32 ≤ l.ks.length) :
    Calls Yba.prog 41 #[.pointer (some ⟨S, 2, none⟩), .pointer (some ⟨r.p, 0, none⟩), .int .i64 (P.length : Int)] w fun e w' => ∃ r1 A' l' C' P' Q', e = .returned (.pointer (some ⟨l'.p, 0, none⟩)) ∧ Filled r w l r1 A' l' C' P' Q' w' := by
  have hA := h.leaf l (by rw [hcs]; simp)
  have hc1 : (r.cs.map Lf.ptr)[P.length]? = some (.pointer (some ⟨l.p, 0, none⟩)) := by rw [hcs, ← hAP]; simp [Lf.ptr]
  have CH := fun W hO' hN' hV' hC' => child_any S r.p r.cb P.length (.slice (some ⟨r.kb, 0, none⟩) r.ks.length 63) (r.cs.map Lf.ptr) l.p (.slice (some ⟨l.kb, 0, none⟩) l.ks.length 63) (.slice none 0 0) W hO' hN' hV' hc1 hC'
  rw [List.length_map] at CH
  have c1 := hA.node.c1
  have i32 : (32 : Int) ≤ (l.ks.length : Int) := by omega
  have hcs' : Hid (r.cs = A ++ l :: C) := hcs
  have hks' : Hid (r.ks = P ++ Q) := hks
  clear hcs hks hc1
  go_enter Yba.func41, Yba.ntmps41
  go_wp2_with (go_at_call 39; refine (CH _ hO h.node h.kids hA.node).mono ?_; rintro e w2 ⟨rfl, n, rfl⟩)
  go_ret
  exact ⟨r, A, l, C, P, Q, rfl, hcs'.out, hks'.out, hAP, h32, fun _ e => e, rfl, h.touch ((Touch.refl (fun _ => False) w).drewN n) (fun _ _ => id), rfl, hs, fun _ e => e, (Touch.refl _ w).drewN n⟩

set_option maxHeartbeats 4000000 in
set_option maxRecDepth 100000 in
theorem fill_left (S : Nat) (r : Rt) (A C : List Lf) (l1 l2 : Lf) (P Q L : List Key) (m x : Key) (w : World) (hO : w.cell? ⟨S, 4, none⟩ = some (.pointer none)) (h : RootAt w r) (hs : Sizes r.cs) (hcs : r.cs = A ++ l1 :: l2 :: C) (hks : r.ks = P ++ m :: Q) (hAP : A.length = P.length) (h31 : l2.ks.length = 31) (hx : l1.ks = L ++ [x]) (hL : 31 ≤ L.length) :
    Calls Yba.prog 41 #[.pointer (some ⟨S, 2, none⟩), .pointer (some ⟨r.p, 0, none⟩), .int .i64 ((P.length : Int) + 1)] w fun e w' => ∃ r1 A' l' C' P' Q', e = .returned (.pointer (some ⟨l'.p, 0, none⟩)) ∧ Filled r w l2 r1 A' l' C' P' Q' w' := by
  have ap := pair_apart hcs h.nd
  have hA1 := h.leaf l1 (by rw [hcs]; simp)
  have hA2 := h.leaf l2 (by rw [hcs]; simp)
  have hN := h.node
  have hK := h.keys
  have hX := h.kids
  have fin : ∀ w', Touch (· ∈ seven r l1 l2) w w' → NodeAt w' r.p (.slice (some ⟨r.kb, 0, none⟩) r.ks.length 63) (.slice (some ⟨r.cb, 0, none⟩) r.cs.length 64) → Vec w' r.kb 9 63 ((P ++ x :: Q).map .string) → Vec w' r.cb 55 64 (r.cs.map Lf.ptr) → LeafAt w' { l1 with ks := L } → LeafAt w' { l2 with ks := m :: l2.ks } →
      ∃ r1 A' l' C' P' Q', (Ending.returned (.pointer (some ⟨l2.p, 0, none⟩))) = .returned (.pointer (some ⟨l'.p, 0, none⟩)) ∧ Filled r w l2 r1 A' l' C' P' Q' w' := fun w' ht hN' hK' hX' h1' h2' => by
    have hR := RootAt.pair (w' := w') h hcs L (m :: l2.ks) (P ++ x :: Q) ht (by rw [show (P ++ x :: Q).length = r.ks.length by rw [hks]; simp]; exact hN') hK' hX' h1' h2' (by rw [hks]; simp)
    have hs' := hs
    rw [hcs] at hs'
    refine ⟨_, A ++ [{ l1 with ks := L }], { l2 with ks := m :: l2.ks }, C, P ++ [x], Q, rfl, ?_, ?_, by simp [hAP], by simp [h31], fun y hy => by simp [hy], ?_, hR, rfl, ?_, ?_, ht.mono (fun y _ hy => seven_sub hcs y hy)⟩
    · simp
    · simp
    · rw [flat_leaf r A (l2 :: C) l1 P (m :: Q) hcs hks hAP, flat_leaf { r with ks := P ++ x :: Q, cs := A ++ { l1 with ks := L } :: { l2 with ks := m :: l2.ks } :: C } A ({ l2 with ks := m :: l2.ks } :: C) { l1 with ks := L } P (x :: Q) rfl rfl hAP, hx]
      simp [rest, flat_cons]
    · intro l' hl'
      rcases List.mem_append.1 hl' with hm | hm
      · exact hs' l' (by simp [hm])
      · rcases List.mem_cons.1 hm with rfl | hm
        · have := hs' l1 (by simp)
          rw [hx] at this
          simp at this ⊢
          omega
        · rcases List.mem_cons.1 hm with rfl | hm
          · simp [h31]
          · exact hs' l' (by simp [hm])
    · intro b hb
      simp only [Rt.blocks, hcs, lblocks_append, lblocks_cons] at hb ⊢
      exact hb
  have hk63 : r.ks.length ≤ 63 := by obtain ⟨f, _, h, _⟩ := hK; simpa using h
  have hl63 : l1.ks.length ≤ 63 := (hs l1 (by rw [hcs]; simp)).2
  have hP62 : P.length ≤ 62 := by rw [hks] at hk63; simp at hk63; omega
  have hc1 : (r.cs.map Lf.ptr)[P.length]? = some (.pointer (some ⟨l1.p, 0, none⟩)) := by rw [hcs, ← hAP]; simp [Lf.ptr]
  have hc2 : (r.cs.map Lf.ptr)[P.length + 1]? = some (.pointer (some ⟨l2.p, 0, none⟩)) := by rw [hcs, ← hAP, List.map_append, List.getElem?_append_right (by simp)]; simp [Lf.ptr]
  have hk1 : (r.ks.map Value.string)[P.length]? = some (.string m) := by rw [hks]; simp
  have hx1 : (l1.ks.map Value.string)[L.length]? = some (.string x) := by rw [hx]; simp
  have hlx : l1.ks.length = L.length + 1 := by rw [hx]; simp
  obtain ⟨p, kb, cb, rk, cs⟩ := r
  obtain ⟨a, ab, k1⟩ := l1
  obtain ⟨b, bb, k2⟩ := l2
  simp only at hN hK hX fin hk63 hc1 hc2 hk1 hx1 hcs hks hx hlx h31 hl63 ⊢
  obtain ⟨⟨d1, d2, d3, d4, d5, d6⟩, ⟨d7, d8, d9, d10, d11⟩, ⟨d12, d13, d14, d15⟩, ⟨d16, d17, d18⟩, ⟨d19, d20⟩, d21⟩ : (p ≠ kb ∧ p ≠ cb ∧ p ≠ a ∧ p ≠ ab ∧ p ≠ b ∧ p ≠ bb) ∧ (kb ≠ cb ∧ kb ≠ a ∧ kb ≠ ab ∧ kb ≠ b ∧ kb ≠ bb) ∧ (cb ≠ a ∧ cb ≠ ab ∧ cb ≠ b ∧ cb ≠ bb) ∧ (a ≠ ab ∧ a ≠ b ∧ a ≠ bb) ∧ (ab ≠ b ∧ ab ≠ bb) ∧ b ≠ bb := by simpa [seven] using ap.1
  have CH1 := fun W hO' hN' hV' hC' => child_any S p cb P.length (.slice (some ⟨kb, 0, none⟩) rk.length 63) (cs.map Lf.ptr) a (.slice (some ⟨ab, 0, none⟩) k1.length 63) (.slice none 0 0) W hO' hN' hV' hc1 hC'
  have CH2 := fun W hO' hN' hV' hC' => child_any S p cb (P.length + 1) (.slice (some ⟨kb, 0, none⟩) rk.length 63) (cs.map Lf.ptr) b (.slice (some ⟨bb, 0, none⟩) k2.length 63) (.slice none 0 0) W hO' hN' hV' hc2 hC'
  rw [List.length_map] at CH1 CH2
  rw [show ((P.length + 1 : Nat) : Int) = (P.length : Int) + 1 by omega] at CH2
  have c1 := hA2.node.c1
  have c2 := hN.c2
  have c3 := hX.cell hc1
  have c4 := hA1.node.c1
  simp only at c1 c4
  rw [hlx] at c4
  rw [h31] at c1
  have i1 : (P.length : Int) + 1 < (cs.length : Int) := by rw [hcs]; simp; omega
  have i0' : (0 : Int) < (P.length : Int) + 1 := by omega
  have i2 : (P.length : Int) < (cs.length : Int) := by omega
  have i3 : (P.length : Int) < (rk.length : Int) := by rw [hks]; simp; omega
  have i5 : (32 : Int) ≤ ((L.length + 1 : Nat) : Int) := by omega
  have i6 : (L.length : Int) ≤ 62 := by omega
  have i7 : (P.length : Int) + 1 - 1 = (P.length : Int) := by omega
  have i8 : ((L.length + 1 : Nat) : Int) - 1 = (L.length : Int) := by omega
  have hks' : Hid (rk = P ++ m :: Q) := hks
  have hx' : Hid (k1 = L ++ [x]) := hx
  have hlx' : Hid (k1.length = L.length + 1) := hlx
  have h31' : Hid (k2.length = 31) := h31
  clear hcs hks hx hlx h31
  go_enter Yba.func41, Yba.ntmps41
  go_upto_region 7 with (first | (go_at_call_of 39 (Value.int .i64 (P.length : Int)); refine (CH1 _ (by exact hO) (by exact hN) (by exact hX) (by exact hA1.node)).mono ?_; rintro e w2 ⟨rfl, n2, rfl⟩) | (go_at_call 39; refine (CH2 _ (by exact hO) (by exact hN) (by exact hX) (by exact hA2.node)).mono ?_; rintro e w2 ⟨rfl, n, rfl⟩))
  have t1 : Touch (· ∈ seven ⟨p, kb, cb, rk, cs⟩ ⟨a, ab, k1⟩ ⟨b, bb, k2⟩) w (w.drewN (n + n2)) := (Touch.refl _ w).drewN _
  have u1 : Touch (fun _ => False) w (w.drewN (n + n2)) := (Touch.refl _ w).drewN _
  replace hN := hN.touch u1 id
  replace hK := hK.touch u1 id
  replace hX := hX.touch u1 id
  replace hA1 := hA1.touch u1 id id
  replace hA2 := hA2.touch u1 id id
  clear CH1 CH2 c1 c2 c3 c4 u1
  generalize w.drewN (n + n2) = w1 at *
  have hw1 : IntKind.i64.wrap ((P.length : Int) + 1 - 1) = (P.length : Int) := by rw [IntKind.wrap_i64]; omega
  have hw2 : IntKind.i64.wrap (P.length : Int) = (P.length : Int) := by rw [IntKind.wrap_i64]; omega
  have hB : NodeAt w1 b (.slice (some ⟨bb, 0, none⟩) 31 63) (.slice none 0 0) := by have e := hA2.node; simp only [h31'.out] at e; exact e
  have f1 := hB.c1
  have f2 := hN.c1
  have f3 := hK.cell hk1
  have g1 := World.new_ne w1 ⟨b, 1, none⟩ f1
  have g2 := World.new_ne w1 ⟨p, 1, none⟩ f2
  have g3 := World.new_ne w1 ⟨kb, P.length, none⟩ f3
  have ba : Touch (· = bb) w1 (w1.alloc (.cells #[.string m] 9)).drew := ((Touch.refl (· = bb) w1).alloc _).drew
  have CI := fun (W : World) hV' hv => insertStr bb 63 0 w1.heap.size (k2.map Value.string) (.string m) W hV' (by omega) (by simp [h31'.out]) (by omega) hv (by have := hA2.lt2; simp only at this; omega) (str_one k2) rfl
  rw [List.length_map, h31'.out] at CI
  have vK : Vec (w1.alloc (.cells #[.string m] 9)).drew bb 9 63 (k2.map .string) := hA2.keys.touch (((Touch.refl (fun _ => False) w1).alloc _).drew) id
  have vv : Vec (w1.alloc (.cells #[.string m] 9)).drew w1.heap.size 9 1 [.string m] := (vec_one w1 _ 9).touch (Touch.refl (fun _ => False) _).drew id
  have ba' : Touch (fun _ => False) w1 (w1.alloc (.cells #[.string m] 9)) := (Touch.refl (fun _ => False) w1).alloc _
  have f5 := (hB.touch ba' id).c1
  have hlen : k2.length + 1 = 32 := by rw [h31'.out]
  have out : ∀ w3, Vec w3 bb 9 63 ((k2.map Value.string).take 0 ++ Value.string m :: (k2.map Value.string).drop 0) → Touch (· = bb) (w1.alloc (.cells #[.string m] 9)).drew w3 → LeafAt (w3.setCell ⟨b, 1, none⟩ (.slice (some ⟨bb, 0, none⟩) 32 63)) ⟨b, bb, m :: k2⟩ ∧ Touch (fun x => x = b ∨ x = bb) w1 (w3.setCell ⟨b, 1, none⟩ (.slice (some ⟨bb, 0, none⟩) 32 63)) := fun w3 hv ht => by
    have tt := ba.trans ht (fun _ _ h => h)
    refine ⟨⟨?_, ?_, d21⟩, (tt.mono (fun _ _ e => .inr e)).setCell (fun _ => .inl rfl)⟩
    · have := (hB.touch tt d21).set1 (.slice (some ⟨bb, 0, none⟩) 32 63)
      simpa only [List.length_cons, hlen] using this
    · have := hv.touch ((Touch.refl (· = b) w3).setCell (o := 1) (v := .slice (some ⟨bb, 0, none⟩) 32 63) (fun _ => rfl)) (fun e => d21 e.symm)
      simpa using this
  go_cut [7] from 50 to 66 (fun v wx => v = .pointer (some ⟨b, 0, none⟩) ∧ LeafAt wx ⟨b, bb, m :: k2⟩ ∧ Touch (fun x => x = b ∨ x = bb) w1 wx)
  case first =>
    go_region_with (first | (go_at_call 37; refine (CI _ vK vv).mono ?_; rintro e w3 ⟨rfl, hK3, t3⟩; have l3 := (hB.touch (ba.trans t3 (fun _ _ h => h)) d21).c1; have z3 := (hB.touch (ba.trans t3 (fun _ _ h => h)) d21).fz 1; have m3 := out _ hK3 t3))
    all_goals (go_wp2_with fail; go_meet; exact ⟨rfl, m3⟩)
  case rest =>
    obtain ⟨rfl, hA2c, tc⟩ := hcut
    replace hN := hN.touch tc (fun e => e.elim d5 d6)
    replace hK := hK.touch tc (fun e => e.elim d10 d11)
    replace hX := hX.touch tc (fun e => e.elim d14 d15)
    replace hA1 := hA1.touch tc (fun e => e.elim d17 d18) (fun e => e.elim d19 d20)
    have a1 := t1.trans tc (fun x _ e => by rcases e with rfl | rfl <;> simp [seven])
    clear hA2 hB f1 f2 f3 f5 g1 g2 g3 ba ba' CI vK vv out tc t1
    have hB : NodeAt wc a (.slice (some ⟨ab, 0, none⟩) (L.length + 1) 63) (.slice none 0 0) := by have e := hA1.node; simp only [hlx'.out] at e; exact e
    have f1 := hN.c1
    have f2 := hB.c1
    have f3 : wc.cell? ⟨ab, L.length, none⟩ = some (.string x) := hA1.keys.cell hx1
    have f4 := hK.cell hk1
    have f5 := hK.frozen P.length
    have e1 := d8.symm
    have e2 := d9.symm
    have e3 := d1.symm
    have b1 : (0 : Int) ≤ (L.length : Int) := by omega
    have b2 : (L.length : Int) < (L.length : Int) + 1 := by omega
    go_wp2_with fail
    go_region_held3 (fun w' => (w'.cell? ⟨p, 1, none⟩ = some (.slice (some ⟨kb, 0, none⟩) rk.length 63) ∧ w'.cell? ⟨a, 1, none⟩ = some (.slice (some ⟨ab, 0, none⟩) (L.length + 1) 63) ∧ w'.cell? ⟨ab, L.length, none⟩ = some (.string x))) (go_keep) (fail)
    go_upto_region 9 with fail
    have u2 : Touch (· = kb) wc (wc.setCell ⟨kb, P.length, none⟩ (.string x)).drew := ((Touch.refl (· = kb) wc).setCell (fun _ => rfl)).drew
    have hK2 : Vec (wc.setCell ⟨kb, P.length, none⟩ (.string x)).drew kb 9 63 ((P ++ x :: Q).map .string) := by
      rw [hks'.out, List.map_append, List.map_cons] at hK
      have e := hK.put (.string x)
      rw [List.length_map] at e
      have e2 := e.touch ((Touch.refl (fun _ => False) _).drew) id
      rw [List.map_append, List.map_cons]
      exact e2
    replace hN := hN.touch u2 d1
    replace hX := hX.touch u2 (fun e => d7 e.symm)
    replace hA1 := hA1.touch u2 (fun e => d8 e.symm) (fun e => d9 e.symm)
    replace hB := hB.touch u2 (fun e => d8 e.symm)
    replace hA2c := hA2c.touch u2 (fun e => d10 e.symm) (fun e => d11 e.symm)
    replace a1 := a1.trans u2 (fun x _ e => by subst e; simp [seven])
    clear f1 f2 f3 f4 f5 hK u2
    generalize (wc.setCell ⟨kb, P.length, none⟩ (.string x)).drew = w4 at *
    have DK := fun W hV => deleteStr ab 63 L.length (k1.map .string) W hV (by simp [hlx'.out]) (str_one k1)
    rw [List.length_map, hlx'.out, Nat.add_sub_cancel] at DK
    have f1 := hB.c1
    have f2 := hA2c.node.c2
    simp only at f2
    have hsn := neq71
    go_wp2_with (go_at_call 40; refine (DK _ hA1.keys).mono ?_; rintro e w5 ⟨rfl, hK5, t5⟩; have l2 := (hB.touch t5 d16).fz 1; have l3 := (hB.touch t5 d16).c1; have l4 := (hA2c.node.touch t5 (fun e => d19 e.symm)).c2; (try simp only at l4))
    go_ret
    have t6 : Touch (fun x => x = a ∨ x = ab) w4 (w5.setCell ⟨a, 1, none⟩ (.slice (some ⟨ab, 0, none⟩) L.length 63)) := (t5.mono (fun _ _ e => .inr e)).setCell (fun _ => .inl rfl)
    refine fin _ (a1.trans t6 (fun x _ e => by rcases e with rfl | rfl <;> simp [seven])) (hN.touch t6 (fun e => e.elim d3 d4)) (hK2.touch t6 (fun e => e.elim d8 d9)) (hX.touch t6 (fun e => e.elim d12 d13)) ⟨(hB.touch t5 d16).set1 _, ?_, d16⟩ (hA2c.touch t6 (fun e => e.elim (fun e => d17 e.symm) (fun e => d19 e.symm)) (fun e => e.elim (fun e => d18 e.symm) (fun e => d20 e.symm)))
    have hK7 := hK5.touch ((Touch.refl (· = a) w5).setCell (o := 1) (v := .slice (some ⟨ab, 0, none⟩) L.length 63) (fun _ => rfl)) (fun e => d16 e.symm)
    rw [show (k1.map Value.string).take L.length ++ (k1.map Value.string).drop (L.length + 1) = L.map .string by
      rw [hx'.out]; simp] at hK7
    exact hK7
end Go.Proofs.Ybulkbhty.Tree
