import Derived.Test.YbulkbhtyT18
namespace Go.Proofs.Ybulkbhty.Tree
open Go.RowKit Go.WideShapes Go.Lib

/-- A key between its neighbours is in the child they enclose. -/
theorem mem_child {X L Y : List Key} {k : Key} (hk : k ∈ X ++ (L ++ Y)) (hx : ∀ x ∈ X, KLt x k) (hy : ∀ y ∈ Y, KLt k y) : k ∈ L := by
  rcases List.mem_append.1 hk with h | h
  · exact absurd (hx k h) (KLt.irrefl k)
  · rcases List.mem_append.1 h with h | h
    · exact h
    · exact absurd (hy k h) (KLt.irrefl k)

/-- The way down of delete: k' is to go from the leaf l. -/
structure Dn (r : Rt) (w : World) (k k' : Key) (r1 : Rt) (A : List Lf) (l : Lf) (C : List Lf) (P Q : List Key) (w1 : World) : Prop where
  cs : r1.cs = A ++ l :: C
  ks : r1.ks = P ++ Q
  al : A.length = P.length
  mem : k' ∈ l.ks
  rl : Rising l.ks
  ge : 32 ≤ l.ks.length
  tgt : ∀ X Y, l.ks = X ++ k' :: Y → ∃ U V, r.flat = U ++ k :: V ∧ U ++ V = inter (A.map (·.ks)) P ++ ((X ++ Y) ++ rest (C.map (·.ks)) Q)
  at1 : RootAt w1 r1
  rp : r1.p = r.p
  sz : Sizes r1.cs
  bl : ∀ b ∈ r1.blocks, b ∈ r.blocks
  tc : Touch (· ∈ r.blocks) w w1

structure Gone (r : Rt) (w : World) (k : Key) (r' : Rt) (U V : List Key) (w' : World) : Prop where
  old : r.flat = U ++ k :: V
  new : r'.flat = U ++ V
  at' : RootAt w' r'
  rp : r'.p = r.p
  sz : Sizes r'.cs
  bl : ∀ b ∈ r'.blocks, b ∈ r.blocks
  tc : Touch (· ∈ r.blocks) w w'

theorem Dn.gone {r r1 : Rt} {w w1 w' : World} {k k' : Key} {A C : List Lf} {l : Lf} {P Q X Y : List Key} (h : Dn r w k k' r1 A l C P Q w1) (hxy : l.ks = X ++ k' :: Y) (hl : LeafAt w' { l with ks := X ++ Y }) (ht : Touch (fun b => b = l.p ∨ b = l.kb) w1 w') : ∃ r' U V, Gone r w k r' U V w' := by
  obtain ⟨U, V, h1, h2⟩ := h.tgt X Y hxy
  refine ⟨{ r1 with cs := A ++ { l with ks := X ++ Y } :: C }, U, V, h1, ?_, h.at1.setLeaf h.cs _ hl ht, h.rp, ?_, ?_, ?_⟩
  · rw [flat_leaf { r1 with cs := A ++ { l with ks := X ++ Y } :: C } A C { l with ks := X ++ Y } P Q rfl h.ks h.al, h2]
  · intro l' hl'
    have hs := h.sz
    rw [h.cs] at hs
    rcases List.mem_append.1 hl' with hm | hm
    · exact hs l' (by simp [hm])
    · rcases List.mem_cons.1 hm with rfl | hm
      · have e1 := (hs l (by simp)).2
        have e2 := h.ge
        rw [hxy] at e1 e2
        simp at e1 e2 ⊢
        omega
      · exact hs l' (by simp [hm])
  · intro b hb
    refine h.bl b ?_
    simp only [Rt.blocks] at hb ⊢
    rw [h.cs]
    rw [show lblocks (A ++ { l with ks := X ++ Y } :: C) = lblocks (A ++ l :: C) from lblocks_same A C l _ rfl rfl] at hb
    exact hb
  · refine h.tc.trans ht (fun x _ e => h.bl x ?_)
    simp only [Rt.blocks]
    rw [h.cs]
    have : x ∈ lblocks (A ++ l :: C) := mem_lblocks.2 ⟨l, by simp, e⟩
    simp [this]

/-- Behind fill: k itself is to go. -/
theorem Filled.dn {r r1 : Rt} {w w' : World} {k : Key} {l l' : Lf} {A' C' : List Lf} {P' Q' : List Key} (h : Filled r w l r1 A' l' C' P' Q' w') (hr : Rising r.flat) (hk : k ∈ l'.ks) : Dn r w k k r1 A' l' C' P' Q' w' := by
  have hf := flat_leaf r1 A' C' l' P' Q' h.cs h.ks h.al
  rw [h.fl] at hf
  refine ⟨h.cs, h.ks, h.al, hk, ?_, h.ge, fun X Y hxy => ?_, h.at1, h.rp, h.sz, h.bl, h.tc⟩
  · rw [hf] at hr
    exact (List.pairwise_append.1 (List.pairwise_append.1 hr).2.1).1
  · exact ⟨inter (A'.map (·.ks)) P' ++ X, Y ++ rest (C'.map (·.ks)) Q', by rw [hf, hxy]; simp, by simp⟩

theorem mid_unique {X Y X' Y' : List Key} {k : Key} (hr : Rising (X ++ k :: Y)) (h : X ++ k :: Y = X' ++ k :: Y') : X = X' ∧ Y = Y' := by
  have hk := hr.not_mem
  have hk1 : k ∉ X := fun e => hk (by simp [e])
  have hk2 : k ∉ X' := by
    have hr' := hr
    rw [h] at hr'
    exact fun e => hr'.not_mem (by simp [e])
  clear hr hk
  induction X generalizing X' with
  | nil =>
    cases X' with
    | nil => simp at h; exact ⟨rfl, h⟩
    | cons a X' => simp at h; exact absurd (by simp [h.1]) hk2
  | cons a X ih =>
    cases X' with
    | nil => simp at h; exact absurd (by simp [h.1]) hk1
    | cons b X' =>
      simp at h
      have e := ih h.2 (fun e => hk1 (by simp [e])) (fun e => hk2 (by simp [e]))
      exact ⟨by rw [h.1, e.1], e.2⟩

theorem nth_split {ks : List Key} {k : Key} {i : Nat} (hi : i < ks.length) (hn : nth ks i = k) : ks = ks.take i ++ k :: ks.drop (i + 1) := by
  have e : ks[i] = k := by simpa [nth, hi] using hn
  rw [← e, List.getElem_cons_drop, List.take_append_drop]


theorem RootAt.setKey {w : World} {r : Rt} {P Q : List Key} {m : Key} (h : RootAt w r) (hks : r.ks = P ++ m :: Q) (x : Key) : RootAt (w.setCell ⟨r.kb, P.length, none⟩ (.string x)) { r with ks := P ++ x :: Q } := by
  have ht : Touch (· = r.kb) w (w.setCell ⟨r.kb, P.length, none⟩ (.string x)) := (Touch.refl (· = r.kb) w).setCell (fun _ => rfl)
  have ap := apart_iff.1 h.nd
  refine ⟨?_, ?_, h.kids.touch ht (fun e => ap.d3 e.symm), fun l hl => (h.leaf l hl).touch ht (fun e => ((ap.l1 l hl).2.2.1) e.symm) (fun e => ((ap.l1 l hl).2.2.2.1) e.symm), h.nd, ?_⟩
  · have e := h.node.touch ht ap.d1
    rw [hks] at e
    simpa using e
  · have e := h.keys
    rw [hks, List.map_append, List.map_cons] at e
    have e2 := e.put (.string x)
    rw [List.length_map] at e2
    simp only [List.map_append, List.map_cons]
    exact e2
  · have e := h.len
    rw [hks] at e
    simpa using e

theorem dn_pred {r : Rt} {w w1 : World} {k x : Key} {A C : List Lf} {l : Lf} {P Q L : List Key} (hs : Sizes r.cs) (hr : Rising r.flat) (hcs : r.cs = A ++ l :: C) (hks : r.ks = P ++ k :: Q) (hAP : A.length = P.length) (hx : l.ks = L ++ [x]) (hge : 32 ≤ l.ks.length)
    (h1 : RootAt w1 { r with ks := P ++ x :: Q }) (ht : Touch (· ∈ r.blocks) w w1) : Dn r w k x { r with ks := P ++ x :: Q } A l C P (x :: Q) w1 := by
  have hf := flat_leaf r A C l P (k :: Q) hcs hks hAP
  have hrl : Rising l.ks := by rw [hf] at hr; exact (List.pairwise_append.1 (List.pairwise_append.1 hr).2.1).1
  refine ⟨hcs, rfl, hAP, by rw [hx]; simp, hrl, hge, fun X Y hxy => ?_, h1, rfl, hs, fun b hb => hb, ht⟩
  rw [hxy] at hrl
  obtain ⟨e1, e2⟩ := mid_unique hrl (hxy.symm.trans hx)
  subst e1 e2
  refine ⟨inter (A.map (·.ks)) P ++ (X ++ [x]), flat (C.map (·.ks)) Q, ?_, ?_⟩
  · rw [hf, hx]; simp [rest]
  · simp [rest]

theorem dn_succ {r : Rt} {w w1 : World} {k x : Key} {A C : List Lf} {l l2 : Lf} {P Q R : List Key} (hs : Sizes r.cs) (hr : Rising r.flat) (hcs : r.cs = A ++ l :: l2 :: C) (hks : r.ks = P ++ k :: Q) (hAP : A.length = P.length) (hx : l2.ks = x :: R) (hge : 32 ≤ l2.ks.length)
    (h1 : RootAt w1 { r with ks := P ++ x :: Q }) (ht : Touch (· ∈ r.blocks) w w1) : Dn r w k x { r with ks := P ++ x :: Q } (A ++ [l]) l2 C (P ++ [x]) Q w1 := by
  have hf := flat_leaf r A (l2 :: C) l P (k :: Q) hcs hks hAP
  have hf2 := flat_leaf r (A ++ [l]) C l2 (P ++ [k]) Q (by rw [hcs]; simp) (by rw [hks]; simp) (by simp [hAP])
  have hrl : Rising l2.ks := by rw [hf2] at hr; exact (List.pairwise_append.1 (List.pairwise_append.1 hr).2.1).1
  refine ⟨by simp [hcs], by simp, by simp [hAP], by rw [hx]; simp, hrl, hge, fun X Y hxy => ?_, h1, rfl, hs, fun b hb => hb, ht⟩
  rw [hxy] at hrl
  obtain ⟨e1, e2⟩ := mid_unique hrl (Y' := R) (X' := []) (hxy.symm.trans hx)
  subst e1 e2
  refine ⟨inter (A.map (·.ks)) P ++ l.ks, x :: Y ++ rest (C.map (·.ks)) Q, ?_, ?_⟩
  · rw [hf]; simp [rest, flat_cons, hx]
  · rw [List.map_append, List.map_cons, List.map_nil, inter_snoc _ _ _ _ (by simpa using hAP)]; simp

/-! ### delete at a leaf -/
set_option maxHeartbeats 2000000 in
set_option maxRecDepth 100000 in
theorem delete_leaf (S : Nat) (l : Lf) (k : Key) (w : World) (hA : LeafAt w l) (hr : Rising l.ks) (hk : k ∈ l.ks) (h63 : l.ks.length ≤ 63) :
    Calls Yba.prog 34 #[.pointer (some ⟨S, 2, none⟩), .pointer (some ⟨l.p, 0, none⟩), .string k] w fun e w' => e = .returned (.bool true) ∧ ∃ X Y, l.ks = X ++ k :: Y ∧ LeafAt w' { l with ks := X ++ Y } ∧ Touch (fun b => b = l.p ∨ b = l.kb) w w' := by
  obtain ⟨p, kb, ks⟩ := l
  obtain ⟨hN, hV, hne⟩ := hA
  simp only at hN hV hne hr hk h63 ⊢
  have c1 := hN.c1
  have c2 := hN.c2
  have hsn := fun w' a n c n' c' => Lib.run_eql_slice_nil (P := Yba.prog) w' 71 55 a n c n' c' Yba.underlying71
  have SE := search_old kb 63 ks k w (by omega) hV hr hk
  go_enter Yba.func34, Yba.ntmps34
  go_wp2_with fail
  go_loopw [1, 2, 7, 8, 9, 10] (fun n kk _ _ _ _ wx => n = .pointer (some ⟨p, 0, none⟩) ∧ kk = .string k ∧ w = wx) (fun _ _ _ _ _ _ _ => 0)
  case atStart => exact ⟨rfl, rfl, rfl⟩
  case round =>
    obtain ⟨rfl, rfl, rfl⟩ := hrel
    go_upto_region 2 with (go_at_call 25; refine SE.mono ?_; rintro e w' ⟨i, hi, hn, rfl, hw⟩; subst hw)
    have hsp := nth_split hi hn
    have DK := fun W hV => deleteStr kb 63 i (ks.map .string) W hV (by simpa using hi) (str_one ks)
    rw [List.length_map] at DK
    have hsp' : Hid (ks = ks.take i ++ k :: ks.drop (i + 1)) := hsp
    have i63 : (i : Int) ≤ 63 := by omega
    clear SE hn hsp
    go_wp2_with (go_at_call 40; refine (DK _ hV).mono ?_; rintro e w5 ⟨rfl, hK5, t5⟩; have l2 := (hN.touch t5 hne).fz 1; have l3 := (hN.touch t5 hne).c1)
    go_ret
    refine ⟨rfl, ks.take i, ks.drop (i + 1), hsp'.out, ⟨?_, ?_, hne⟩, (t5.mono (fun _ _ e => .inr e)).setCell (fun _ => .inl rfl)⟩
    · have h := (hN.touch t5 hne).set1 (.slice (some ⟨kb, 0, none⟩) (ks.length - 1) 63)
      have e : (ks.take i ++ ks.drop (i + 1)).length = ks.length - 1 := by simp; omega
      simp only [e]
      exact h
    · have h := hK5.touch ((Touch.refl (· = p) w5).setCell (o := 1) (v := .slice (some ⟨kb, 0, none⟩) (ks.length - 1) 63) (fun _ => rfl)) (fun e => hne e.symm)
      simp only [List.map_append, List.map_take, List.map_drop]
      exact h
end Go.Proofs.Ybulkbhty.Tree
