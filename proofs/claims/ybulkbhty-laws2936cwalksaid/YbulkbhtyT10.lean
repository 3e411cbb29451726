import Derived.Test.YbulkbhtyT9
namespace Go.Proofs.Ybulkbhty.Tree
open Go.RowKit Go.WideShapes Go.Lib

def Sizes (cs : List Lf) : Prop := ∀ l ∈ cs, 31 ≤ l.ks.length ∧ l.ks.length ≤ 63

/-- The way down: the same keys, the leaf l that k goes to. -/
structure Down (r : Rt) (w : World) (k : Key) (r1 : Rt) (A : List Lf) (l : Lf) (C : List Lf) (P Q : List Key) (w1 : World) : Prop where
  cs : r1.cs = A ++ l :: C
  ks : r1.ks = P ++ Q
  al : A.length = P.length
  lo : ∀ p ∈ P, KLt p k
  hi : ∀ q ∈ Q, KLt k q
  fl : r1.flat = r.flat
  at1 : RootAt w1 r1
  rp : r1.p = r.p
  sz : Sizes r1.cs
  bl : ∀ b ∈ r1.blocks, b ∈ r.blocks ∨ w.heap.size ≤ b
  tc : Touch (· ∈ r.blocks) w w1

/-- What an insertion leaves. -/
structure Put (r : Rt) (w : World) (k : Key) (r' : Rt) (X Y : List Key) (w' : World) : Prop where
  old : r.flat = X ++ Y
  lo : ∀ x ∈ X, KLt x k
  hi : ∀ y ∈ Y, KLt k y
  new : r'.flat = X ++ k :: Y
  at' : RootAt w' r'
  rp : r'.p = r.p
  sz : Sizes r'.cs
  bl : ∀ b ∈ r'.blocks, b ∈ r.blocks ∨ w.heap.size ≤ b
  tc : Touch (· ∈ r.blocks) w w'

theorem Down.put {r r1 : Rt} {w w1 w' : World} {k : Key} {A C : List Lf} {l : Lf} {P Q X Y : List Key} (h : Down r w k r1 A l C P Q w1) (hr : Rising r.flat) (hl63 : l.ks.length < 63)
    (hxy : l.ks = X ++ Y) (hx : ∀ x ∈ X, KLt x k) (hy : ∀ y ∈ Y, KLt k y) (hl : LeafAt w' { l with ks := X ++ k :: Y }) (ht : Touch (fun b => b = l.p ∨ b = l.kb) w1 w') :
    ∃ r' X' Y', Put r w k r' X' Y' w' := by
  have hf := flat_leaf r1 A C l P Q h.cs h.ks h.al
  rw [h.fl] at hf
  rw [hf] at hr
  have hr1 := (List.pairwise_append.1 hr).1
  have hr2 := (List.pairwise_append.1 (List.pairwise_append.1 hr).2.1).2.1
  refine ⟨{ r1 with cs := A ++ { l with ks := X ++ k :: Y } :: C }, inter (A.map (·.ks)) P ++ X, Y ++ rest (C.map (·.ks)) Q, ?_, ?_, ?_, ?_, h.at1.setLeaf h.cs _ hl ht, h.rp, ?_, ?_, ?_⟩
  · rw [hf, hxy]; simp
  · intro x hxx
    rcases List.mem_append.1 hxx with hm | hm
    · exact inter_lt hr1 h.lo x hm
    · exact hx x hm
  · intro y hyy
    rcases List.mem_append.1 hyy with hm | hm
    · exact hy y hm
    · exact rest_gt hr2 h.hi y hm
  · rw [flat_leaf { r1 with cs := A ++ { l with ks := X ++ k :: Y } :: C } A C { l with ks := X ++ k :: Y } P Q rfl h.ks h.al]
    simp
  · intro l' hl'
    have hs := h.sz
    rw [h.cs] at hs
    rcases List.mem_append.1 hl' with hm | hm
    · exact hs l' (by simp [hm])
    · rcases List.mem_cons.1 hm with rfl | hm
      · have h1 := hs l (by simp)
        rw [hxy] at h1 hl63
        simp at h1 hl63 ⊢
        omega
      · exact hs l' (by simp [hm])
  · intro b hb
    refine h.bl b ?_
    simp only [Rt.blocks] at hb ⊢
    rw [h.cs]
    rw [show lblocks (A ++ { l with ks := X ++ k :: Y } :: C) = lblocks (A ++ l :: C) from lblocks_same A C l _ rfl rfl] at hb
    exact hb
  · refine h.tc.trans ht (fun x hx e => ?_)
    have hm : x ∈ r1.blocks := by
      simp only [Rt.blocks]
      rw [h.cs]
      have : x ∈ lblocks (A ++ l :: C) := mem_lblocks.2 ⟨l, by simp, e⟩
      simp [this]
    rcases h.bl x hm with h' | h'
    · exact h'
    · omega

/-- At the root: the child that k goes to. -/
theorem Down.start {r : Rt} {w w1 : World} {k : Key} {i : Nat} (h : RootAt w r) (hs : Sizes r.cs) (hk : k ∉ r.ks) (hP : Place r.ks.length (nth r.ks) k i) (ht : Touch (fun _ => False) w w1) :
    ∃ A l C P Q, Down r w k r A l C P Q w1 ∧ P.length = i := by
  have hi := hP.le
  have hlen := h.len
  have hic : i < r.cs.length := by omega
  refine ⟨r.cs.take i, r.cs[i], r.cs.drop (i + 1), r.ks.take i, r.ks.drop i, ⟨?_, (List.take_append_drop i r.ks).symm, by simp; omega, hP.cut.1, hP.above hk, rfl, ⟨h.node.touch ht id, h.keys.touch ht id, h.kids.touch ht id, fun l hl => (h.leaf l hl).touch ht id id, h.nd, h.len⟩, rfl, hs, fun b hb => .inl hb, ht.mono (fun _ _ e => e.elim)⟩, by simp; omega⟩
  rw [List.getElem_cons_drop, List.take_append_drop]

def phase (p : Nat) : Value → Nat
  | .pointer (some a) => if a.block = p then 1 else 0
  | _ => 0

set_option maxHeartbeats 4000000 in
set_option maxRecDepth 100000 in
theorem insert_two (S : Nat) (r : Rt) (k : Key) (w : World) (hO : w.cell? ⟨S, 4, none⟩ = some (.pointer none)) (h : RootAt w r) (hr : Rising r.flat) (hk : k ∉ r.flat) (hkk : k ∉ r.ks) (hrk : Rising r.ks) (hs : Sizes r.cs) (hlen : r.ks.length ≤ 59) :
    Calls Yba.prog 32 #[.pointer (some ⟨S, 2, none⟩), .pointer (some ⟨r.p, 0, none⟩), .string k] w fun e w' => e = .returned (.bool true) ∧ ∃ r' X Y, Put r w k r' X Y w' := by
  have hsn := fun w' a n c n' c' => Lib.run_eql_slice_nil (P := Yba.prog) w' 71 55 a n c n' c' Yba.underlying71
  have SE := search_new r.kb 63 r.ks k w (by omega) h.keys hrk hkk
  have c1 := h.node.c1
  have c2 := h.node.c2
  go_enter Yba.func32, Yba.ntmps32
  go_wp2_with fail
  go_loopw [1, 7, 8, 9] (fun n _ _ _ wx => (n = .pointer (some ⟨r.p, 0, none⟩) ∧ w = wx) ∨ (∃ r1 A l C P Q, n = .pointer (some ⟨l.p, 0, none⟩) ∧ Down r w k r1 A l C P Q wx ∧ l.ks.length < 63)) (fun n _ _ _ _ => phase r.p n)
  case atStart => exact .inl ⟨rfl, rfl⟩
  case round =>
    rcases hrel with ⟨rfl, rfl⟩ | ⟨r1, A, l, C, P, Q, rfl, hD, hl63⟩
    · go_upto_region 2 with (go_at_call 25; refine SE.mono ?_; rintro e w' ⟨i, hP, rfl, hw⟩; subst hw)
      obtain ⟨A, l, C, P, Q, hD, hPi⟩ := Down.start (w1 := w') h hs hkk hP (Touch.refl _ w')
      have hcs := hD.cs
      have hll := h.leaf l (by rw [hcs]; simp)
      have hxi : (r.cs.map Lf.ptr)[i]? = some (.pointer (some ⟨l.p, 0, none⟩)) := by rw [hcs, List.map_append, List.getElem?_append_right (by simp [hD.al, hPi])]; simp [hD.al, hPi, Lf.ptr]
      have CH := fun W hO' hN hV hC => child_any S r.p r.cb i (.slice (some ⟨r.kb, 0, none⟩) r.ks.length 63) (r.cs.map Lf.ptr) l.p (.slice (some ⟨l.kb, 0, none⟩) l.ks.length 63) (.slice none 0 0) W hO' hN hV hxi hC
      rw [List.length_map] at CH
      have lc1 := hll.node.c1
      have hnp : l.p ≠ r.p := (((apart_iff.1 h.nd).l1 l (by rw [hcs]; simp)).1).symm
      by_cases h63 : l.ks.length = 63
      · obtain ⟨L, m, R, hlk, hL, hR⟩ : ∃ L m R, l.ks = L ++ m :: R ∧ L.length = 31 ∧ R.length = 31 := ⟨l.ks.take 31, l.ks[31], l.ks.drop 32, by rw [List.getElem_cons_drop, List.take_append_drop], by simp; omega, by simp; omega⟩
        subst hPi
        have hfl := flat_leaf r A C l P Q hD.cs hD.ks hD.al
        have hkm : k ≠ m := fun e => hk (by rw [hfl, hlk, e]; simp)
        have SP := fun W hO' h' => split_root S r A C l P Q L R m W hO' h' hD.cs hD.ks hD.al hlk hL hR (by omega)
        have CM := fun W => compare_any k m W
        have hRn : ∀ n, RootAt (w'.drewN n) r := fun n => ⟨h.node.touch ((Touch.refl (fun _ => False) w').drewN n) id, h.keys.touch ((Touch.refl (fun _ => False) w').drewN n) id, h.kids.touch ((Touch.refl (fun _ => False) w').drewN n) id, fun l hl => (h.leaf l hl).touch ((Touch.refl (fun _ => False) w').drewN n) id id, h.nd, h.len⟩
        have kc := h.kids.cell hxi
        have i1 : (P.length : Int) < (r.cs.length : Int) := by have := hP.le; have := h.len; omega
        have h63' : (l.ks.length : Int) = 63 := by omega
        clear SE hcs hxi hfl h63
        go_upto_region 9 with (first | (go_at_call 39; refine (CH _ hO h.node h.kids hll.node).mono ?_; rintro e w2 ⟨rfl, n, rfl⟩) | (go_at_call 31; refine (SP _ (by exact hO) (hRn _)).mono ?_; rintro e w3 ⟨rfl, q, hqk, hq1, hq2, h3, t3⟩))
        have t3' : Touch (· ∈ r.blocks) w' w3 := ((Touch.refl (· ∈ r.blocks) w').drewN n).trans t3 (fun x _ e => by
          simp only [Rt.blocks]
          rcases e with rfl | rfl | rfl | e
          · simp
          · simp
          · simp
          · have : x ∈ lblocks r.cs := mem_lblocks.2 ⟨l, by rw [hD.cs]; simp, e⟩
            simp [this])
        obtain ⟨r2, hr2⟩ : ∃ r2 : Rt, r2 = { r with ks := P ++ m :: Q, cs := A ++ { l with ks := L } :: q :: C } := ⟨_, rfl⟩
        rw [← hr2] at h3
        have e2 : r2.cs = A ++ { l with ks := L } :: q :: C := by rw [hr2]
        have e3 : r2.ks = P ++ m :: Q := by rw [hr2]
        have ep : r2.p = r.p := by rw [hr2]
        have g1 := h3.node.c1
        have g2 := h3.node.c2
        have g3 : w3.cell? ⟨r2.kb, P.length, none⟩ = some (.string m) := h3.keys.cell (by rw [e3]; simp)
        have g4 : w3.cell? ⟨r2.cb, P.length, none⟩ = some (.pointer (some ⟨l.p, 0, none⟩)) := h3.kids.cell (by rw [e2, ← hD.al]; simp [Lf.ptr])
        have g5 : w3.cell? ⟨r2.cb, P.length + 1, none⟩ = some (.pointer (some ⟨q.p, 0, none⟩)) := h3.kids.cell (by rw [e2, ← hD.al, List.map_append, List.getElem?_append_right (by simp)]; simp [Lf.ptr])
        rw [ep] at g1 g2
        have hflat : r2.flat = r.flat := by
          rw [flat_leaf r2 A (q :: C) { l with ks := L } P (m :: Q) e2 e3 hD.al, flat_leaf r A C l P Q hD.cs hD.ks hD.al, hlk]
          simp [rest, flat_cons, hqk]
        have hsz : Sizes r2.cs := fun l' hl' => by
          rw [e2] at hl'
          have hs' := hs
          rw [hD.cs] at hs'
          rcases List.mem_append.1 hl' with hm | hm
          · exact hs' l' (by simp [hm])
          · rcases List.mem_cons.1 hm with rfl | hm
            · simp [hL]
            · rcases List.mem_cons.1 hm with rfl | hm
              · simp [hqk, hR]
              · exact hs' l' (by simp [hm])
        have hbl : ∀ b ∈ r2.blocks, b ∈ r.blocks ∨ w'.heap.size ≤ b := fun b hb => by
          rw [hr2] at hb
          simp only [Rt.blocks] at hb ⊢
          rw [hD.cs]
          simp only [lblocks_append, lblocks_cons, List.mem_cons, List.mem_append] at hb ⊢
          have z1 : w'.heap.size ≤ q.p := hq1
          have z2 : w'.heap.size ≤ q.kb := hq2
          rcases hb with hb | hb | hb | hb | hb | hb | hb | hb | hb
          · exact .inl (.inl hb)
          · exact .inl (.inr (.inl hb))
          · exact .inl (.inr (.inr (.inl hb)))
          · exact .inl (.inr (.inr (.inr (.inl hb))))
          · exact .inl (.inr (.inr (.inr (.inr (.inl hb)))))
          · exact .inl (.inr (.inr (.inr (.inr (.inr (.inl hb))))))
          · exact .inr (by omega)
          · exact .inr (by omega)
          · exact .inl (.inr (.inr (.inr (.inr (.inr (.inr hb))))))
        have hp59 : P.length ≤ 59 := by have := hP.le; omega
        have i2 : (P.length : Int) < (r2.ks.length : Int) := by rw [e3]; simp; omega
        have i3 : (P.length : Int) + 1 < (r2.cs.length : Int) := by rw [e2]; have := hD.al; simp; omega
        rcases KLt.tri k m with hkm' | hkm' | hkm'
        · have u1 : (kcmp k m == 0) = false := by have : kcmp k m < 0 := hkm'; simp; omega
          have u2 : ¬ 0 < kcmp k m := by have : kcmp k m < 0 := hkm'; omega
          have DD : Down r w' k r2 A { l with ks := L } (q :: C) P (m :: Q) w3 := ⟨e2, e3, hD.al, hD.lo, fun x hx => by
            rcases List.mem_cons.1 hx with rfl | hx
            · exact hkm'
            · exact hD.hi x hx, hflat, h3, ep, hsz, hbl, t3'⟩
          have i4 : (P.length : Int) < (r2.cs.length : Int) := by omega
          clear hr2 e2 e3 CH SP hRn
          go_wp2_with (go_at_call 26; refine (CM _).mono ?_; rintro e w4 ⟨rfl, rfl⟩)
          go_roundw
          case rel => exact .inr ⟨r2, A, { l with ks := L }, q :: C, P, m :: Q, rfl, DD, by show L.length < 63; omega⟩
          case measure => simp [phase, hnp]
        · exact absurd hkm' hkm
        · have hgt : 0 < kcmp k m := by have h1 : kcmp m k < 0 := hkm'; rw [kcmp_swap] at h1; omega
          have u1 : (kcmp k m == 0) = false := by simp; omega
          have DD : Down r w' k r2 (A ++ [{ l with ks := L }]) q C (P ++ [m]) Q w3 := ⟨by rw [e2]; simp, by rw [e3]; simp, by simp [hD.al], fun x hx => by
            rcases List.mem_append.1 hx with hx | hx
            · exact hD.lo x hx
            · simp at hx; subst hx; exact hkm', hD.hi, hflat, h3, ep, hsz, hbl, t3'⟩
          have hqp : q.p ≠ r.p := fun e => by have := h.node.lt; have : w'.heap.size ≤ q.p := hq1; omega
          clear hr2 e2 e3 CH SP hRn
          go_wp2_with (go_at_call 26; refine (CM _).mono ?_; rintro e w4 ⟨rfl, rfl⟩)
          go_roundw
          case rel => exact .inr ⟨r2, A ++ [{ l with ks := L }], q, C, P ++ [m], Q, rfl, DD, by rw [hqk]; omega⟩
          case measure => simp [phase, hqp]
      · have hl63 : l.ks.length < 63 := by have := hs l (by rw [hcs]; simp); omega
        have kc := h.kids.cell hxi
        have i1 : (i : Int) < (r.cs.length : Int) := by have := hP.le; have := h.len; omega
        clear SE hcs hxi
        go_wp2_with (go_at_call 39; refine (CH _ hO h.node h.kids hll.node).mono ?_; rintro e w2 ⟨rfl, n, rfl⟩)
        go_roundw
        case rel => exact .inr ⟨r, A, l, C, P, Q, rfl, ⟨hD.cs, hD.ks, hD.al, hD.lo, hD.hi, rfl, (Down.start (w1 := w'.drewN n) h hs hkk hP ((Touch.refl _ w').drewN n)).choose_spec.choose_spec.choose_spec.choose_spec.choose_spec.1.at1, rfl, hs, hD.bl, hD.tc.drewN n⟩, hl63⟩
        case measure => simp [phase, hnp]
    · have hmem : l ∈ r1.cs := by rw [hD.cs]; simp
      have hA := hD.at1.leaf l hmem
      have hfl := flat_leaf r1 A C l P Q hD.cs hD.ks hD.al
      rw [hD.fl] at hfl
      have hrl : Rising l.ks := by rw [hfl] at hr; exact (List.pairwise_append.1 (List.pairwise_append.1 hr).2.1).1
      have hkl : k ∉ l.ks := fun hm => hk (by rw [hfl]; simp [hm])
      clear SE c1 c2
      obtain ⟨hN, hV, hne⟩ := hA
      have c1 := hN.c1
      have c2 := hN.c2
      have SE := search_new l.kb 63 l.ks k wr (by omega) hV hrl hkl
      clear hfl
      go_upto_region 2 with (go_at_call 25; refine SE.mono ?_; rintro e w' ⟨i, hP, rfl, hw⟩; subst hw)
      have hC := hP.cut
      have hU := hP.above hkl
      have hi' : i ≤ (l.ks.map Value.string).length := by simpa using hP.le
      have CI := fun (W : World) hV' hv => insertStr l.kb 63 i w'.heap.size (l.ks.map Value.string) (.string k) W hV' hi' (by simp; omega) (by omega) hv (by have := hV.lt; omega) (str_one l.ks) rfl
      rw [List.length_map] at CI
      have vK : Vec (w'.alloc (.cells #[.string k] 9)) l.kb 9 63 (l.ks.map .string) := hV.touch ((Touch.refl (fun _ => False) w').alloc _) (fun h => h)
      have vv := vec_one w' (.string k) 9
      clear SE
      go_wp2_with (go_at_call 37; refine (CI _ vK vv).mono ?_; rintro e w6 ⟨rfl, hK6, t6⟩; have l6 := (hN.touch (((Touch.refl (· = l.kb) w').alloc _).trans t6 (fun _ _ h => h)) hne).c1; have f6 := (hN.touch (((Touch.refl (· = l.kb) w').alloc _).trans t6 (fun _ _ h => h)) hne).fz 1)
      have s6 : Touch (· = l.kb) w' w6 := ((Touch.refl (· = l.kb) w').alloc _).trans t6 (fun _ _ h => h)
      go_ret
      refine ⟨rfl, hD.put hr hl63 (List.take_append_drop i l.ks).symm hC.1 hU ⟨?_, ?_, hne⟩ ((s6.mono (fun _ _ h => .inr h)).setCell (fun _ => .inl rfl))⟩
      · have h := (hN.touch s6 hne).set1 (.slice (some ⟨l.kb, 0, none⟩) (l.ks.length + 1) 63)
        have e : (l.ks.take i ++ k :: l.ks.drop i).length = l.ks.length + 1 := by simp; omega
        simp only [e]
        exact h
      · have h := hK6.touch ((Touch.refl (· = l.p) w6).setCell (o := 1) (v := .slice (some ⟨l.kb, 0, none⟩) (l.ks.length + 1) 63) (fun _ => rfl)) (fun e => hne e.symm)
        simp only [List.map_append, List.map_take, List.map_cons, List.map_drop]
        exact h
end Go.Proofs.Ybulkbhty.Tree
