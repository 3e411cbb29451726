import Derived.Test.YbulkbhtyT19
namespace Go.Proofs.Ybulkbhty.Tree
open Go.RowKit Go.WideShapes Go.Lib

theorem RootAt.leaf_ne {w : World} {r : Rt} {l : Lf} (h : RootAt w r) (hl : l ∈ r.cs) : l.p ≠ r.p := ((apart_iff.1 h.nd).l1 l hl).1.symm

set_option maxHeartbeats 4000000 in
set_option maxRecDepth 100000 in
theorem delete_root (S : Nat) (r : Rt) (k : Key) (w : World) (hO : w.cell? ⟨S, 4, none⟩ = some (.pointer none)) (h : RootAt w r) (hr : Rising r.flat) (hk : k ∈ r.flat) (hs : Sizes r.cs) (h1 : 1 ≤ r.ks.length) (hlen : r.ks.length ≤ 60) :
    Calls Yba.prog 34 #[.pointer (some ⟨S, 2, none⟩), .pointer (some ⟨r.p, 0, none⟩), .string k] w fun e w' => e = .returned (.bool true) ∧ ∃ r' U V, Gone r w k r' U V w' := by
  have hsn := fun w' a n c n' c' => Lib.run_eql_slice_nil (P := Yba.prog) w' 71 55 a n c n' c' Yba.underlying71
  have hrk := rising_keys h hr
  have c1 := h.node.c1
  have c2 := h.node.c2
  go_enter Yba.func34, Yba.ntmps34
  go_wp2_with fail
  go_loopw [1, 2, 7, 8, 9, 10] (fun n kk _ _ _ _ wx => (n = .pointer (some ⟨r.p, 0, none⟩) ∧ kk = .string k ∧ w = wx) ∨ (∃ k' r1 A l C P Q, n = .pointer (some ⟨l.p, 0, none⟩) ∧ kk = .string k' ∧ Dn r w k k' r1 A l C P Q wx)) (fun n _ _ _ _ _ _ => phase r.p n)
  case atStart => exact .inl ⟨rfl, rfl, rfl⟩
  case round =>
    rcases hrel with ⟨rfl, rfl, rfl⟩ | ⟨k', r1, A, l, C, P, Q, rfl, rfl, hD⟩
    · by_cases hkk : k ∈ r.ks
      · have SE := search_old r.kb 63 r.ks k w (by omega) h.keys hrk hkk
        go_upto_region 2 with (go_at_call 25; refine SE.mono ?_; rintro e w' ⟨i, hi, hn, rfl, hw⟩; subst hw)
        obtain ⟨P, Q, hks, hPi⟩ : ∃ P Q, r.ks = P ++ k :: Q ∧ P.length = i := ⟨_, _, nth_split hi hn, by simp; omega⟩
        subst hPi
        have hl := h.len
        obtain ⟨A, l1, l2, C, hcs, hAP⟩ : ∃ A l1 l2 C, r.cs = A ++ l1 :: l2 :: C ∧ A.length = P.length := by
          have e1 : P.length + 1 < r.cs.length := by rw [hl]; omega
          refine ⟨r.cs.take P.length, r.cs[P.length], r.cs[P.length + 1], r.cs.drop (P.length + 1 + 1), ?_, by simp; omega⟩
          rw [List.getElem_cons_drop, List.getElem_cons_drop, List.take_append_drop]
        have hA1 := h.leaf l1 (by rw [hcs]; simp)
        have hA2 := h.leaf l2 (by rw [hcs]; simp)
        have hc1 : (r.cs.map Lf.ptr)[P.length]? = some (.pointer (some ⟨l1.p, 0, none⟩)) := by rw [hcs, ← hAP]; simp [Lf.ptr]
        have hc2 : (r.cs.map Lf.ptr)[P.length + 1]? = some (.pointer (some ⟨l2.p, 0, none⟩)) := by rw [hcs, ← hAP, List.map_append, List.getElem?_append_right (by simp)]; simp [Lf.ptr]
        have hk1 : (r.ks.map Value.string)[P.length]? = some (.string k) := by rw [hks]; simp
        have CH1 := fun W hO' hN' hV' hC' => child_any S r.p r.cb P.length (.slice (some ⟨r.kb, 0, none⟩) r.ks.length 63) (r.cs.map Lf.ptr) l1.p (.slice (some ⟨l1.kb, 0, none⟩) l1.ks.length 63) (.slice none 0 0) W hO' hN' hV' hc1 hC'
        have CH2 := fun W hO' hN' hV' hC' => child_any S r.p r.cb (P.length + 1) (.slice (some ⟨r.kb, 0, none⟩) r.ks.length 63) (r.cs.map Lf.ptr) l2.p (.slice (some ⟨l2.kb, 0, none⟩) l2.ks.length 63) (.slice none 0 0) W hO' hN' hV' hc2 hC'
        rw [List.length_map] at CH1 CH2
        rw [show ((P.length + 1 : Nat) : Int) = (P.length : Int) + 1 by omega] at CH2
        have c3 := h.kids.cell hc1
        have c4 := h.kids.cell hc2
        have c5 := hA1.node.c1
        have c6 := hA2.node.c1
        have c7 := h.keys.cell hk1
        have c8 := h.keys.frozen P.length
        have hb1 : l1 ∈ r.cs := by rw [hcs]; simp
        have hb2 : l2 ∈ r.cs := by rw [hcs]; simp
        have s1 := hs l1 hb1
        have s2 := hs l2 hb2
        have i63 : (P.length : Int) ≤ 60 := by omega
        have i1 : (P.length : Int) + 1 < (r.cs.length : Int) := by omega
        have i0' : (0 : Int) ≤ (P.length : Int) + 1 := by omega
        have i2 : (P.length : Int) < (r.cs.length : Int) := by omega
        have i3 : (P.length : Int) < (r.ks.length : Int) := by omega
        have kb_in : r.kb ∈ r.blocks := by simp [Rt.blocks]
        have hRn : ∀ n, RootAt (w'.drewN n) r := fun n => h.touch ((Touch.refl (fun _ => False) w').drewN n) (fun _ _ => id)
        have tn : ∀ n x, Touch (· ∈ r.blocks) w' ((w'.drewN n).setCell ⟨r.kb, P.length, none⟩ (.string x)) := fun n x => ((Touch.refl (· ∈ r.blocks) w').drewN n).setCell (fun _ => kb_in)
        have hne1 := h.leaf_ne hb1
        have hne2 := h.leaf_ne hb2
        clear SE hn
        by_cases hg1 : 32 ≤ l1.ks.length
        · obtain ⟨L, x, hx⟩ := snoc_of_ne (L := l1.ks) (by intro e; rw [e] at hg1; simp at hg1)
          have LA := fun W hA => last_leaf l1 x L W hA hx
          have fin : ∀ n, Dn r w' k x { r with ks := P ++ x :: Q } A l1 (l2 :: C) P (x :: Q) ((w'.drewN n).setCell ⟨r.kb, P.length, none⟩ (.string x)) := fun n => dn_pred hs hr hcs hks hAP hx hg1 ((hRn n).setKey hks x) (tn n x)
          have i32 : (32 : Int) ≤ (l1.ks.length : Int) := by omega
          have hL1 : ∀ n, LeafAt (w'.drewN n) l1 := fun n => (hRn n).leaf l1 hb1
          clear hcs hks hx hl
          go_wp2_with (first | (go_at_call 39; refine (CH1 _ hO h.node h.kids hA1.node).mono ?_; rintro e w2 ⟨rfl, n, rfl⟩) | (go_at_call 42; refine (LA _ (hL1 _)).mono ?_; rintro e w3 ⟨rfl, n2, rfl⟩))
          go_roundw
          case rel => exact .inr ⟨x, _, A, l1, l2 :: C, P, x :: Q, rfl, rfl, fin _⟩
          case measure => simp [phase, hne1]
        · by_cases hg2 : 32 ≤ l2.ks.length
          · obtain ⟨x, R, hx⟩ : ∃ x R, l2.ks = x :: R := by
              cases e : l2.ks with
              | nil => rw [e] at hg2; simp at hg2
              | cons x R => exact ⟨x, R, rfl⟩
            have LA := fun W hA => first_leaf l2 x R W hA hx
            have fin : ∀ n, Dn r w' k x { r with ks := P ++ x :: Q } (A ++ [l1]) l2 C (P ++ [x]) Q ((w'.drewN n).setCell ⟨r.kb, P.length, none⟩ (.string x)) := fun n => dn_succ hs hr hcs hks hAP hx hg2 ((hRn n).setKey hks x) (tn n x)
            have i32 : (32 : Int) ≤ (l2.ks.length : Int) := by omega
            have i31 : ¬ (32 : Int) ≤ (l1.ks.length : Int) := by omega
            have hL2 : ∀ n, LeafAt (w'.drewN n) l2 := fun n => (hRn n).leaf l2 hb2
            clear hcs hks hx hl
            go_wp2_with (first | (go_at_call 39; refine (CH2 _ hO h.node h.kids hA2.node).mono ?_; rintro e w2 ⟨rfl, n, rfl⟩) | (go_at_call 43; refine (LA _ (hL2 _)).mono ?_; rintro e w3 ⟨rfl, n2, rfl⟩))
            go_roundw
            case rel => exact .inr ⟨x, _, A ++ [l1], l2, C, P ++ [x], Q, rfl, rfl, fin _⟩
            case measure => simp [phase, hne2]
          · have MR := merge_root S r A C l1 l2 P Q k w' hO h hcs hks hAP (by omega)
            have fin := fun w'' hR ht => (filled_join (w := w') (w' := w'') hs hcs hks hAP (by omega) (by omega) (.inl rfl) hR ht).dn (k := k) hr (by simp)
            have i32 : ¬ (32 : Int) ≤ (l2.ks.length : Int) := by omega
            have i31 : ¬ (32 : Int) ≤ (l1.ks.length : Int) := by omega
            clear hcs hks hl
            go_wp2_with (go_at_call 44; refine MR.mono ?_; rintro e w3 ⟨rfl, hR3, t3⟩)
            go_roundw
            case rel => exact .inr ⟨k, _, A, { l1 with ks := l1.ks ++ k :: l2.ks }, C, P, Q, rfl, rfl, fin _ hR3 t3⟩
            case measure => simp [phase, hne1]
      · have SE := search_new r.kb 63 r.ks k w (by omega) h.keys hrk hkk
        go_upto_region 2 with (go_at_call 25; refine SE.mono ?_; rintro e w' ⟨i, hP, rfl, hw⟩; subst hw)
        obtain ⟨A, l, C, P, Q, hD, hPi⟩ := Down.start (w1 := w') h hs hkk hP (Touch.refl _ w')
        have hf := flat_leaf r A C l P Q hD.cs hD.ks hD.al
        have hkl : k ∈ l.ks := by
          have hr' := hr
          have hk' := hk
          rw [hf] at hr' hk'
          exact mem_child hk' (inter_lt (List.pairwise_append.1 hr').1 hD.lo) (rest_gt (List.pairwise_append.1 (List.pairwise_append.1 hr').2.1).2.1 hD.hi)
        subst hPi
        have FR := fill_root S r A C l P Q w' hO h hs h1 hD.cs hD.ks hD.al
        have i63 : (P.length : Int) ≤ 60 := by have := hP.le; omega
        clear SE hf
        go_wp2_with (go_at_call 41; refine FR.mono ?_; rintro e w3 ⟨r1, A', l', C', P', Q', rfl, hF⟩)
        go_roundw
        case rel => exact .inr ⟨k, r1, A', l', C', P', Q', rfl, rfl, hF.dn hr (hF.sub k hkl)⟩
        case measure =>
          have hne := hF.at1.leaf_ne (l := l') (by rw [hF.cs]; simp)
          rw [hF.rp] at hne
          simp [phase, hne]
    · have hmem : l ∈ r1.cs := by rw [hD.cs]; simp
      obtain ⟨hN, hV, hne⟩ := hD.at1.leaf l hmem
      have hl63 := (hD.sz l hmem).2
      clear c1 c2
      have c1 := hN.c1
      have c2 := hN.c2
      have SE := search_old l.kb 63 l.ks k' wr (by omega) hV hD.rl hD.mem
      go_upto_region 2 with (go_at_call 25; refine SE.mono ?_; rintro e w' ⟨i, hi, hn, rfl, hw⟩; subst hw)
      have hsp' : Hid (l.ks = l.ks.take i ++ k' :: l.ks.drop (i + 1)) := nth_split hi hn
      have DK := fun W hV => deleteStr l.kb 63 i (l.ks.map .string) W hV (by simpa using hi) (str_one l.ks)
      rw [List.length_map] at DK
      have i63 : (i : Int) ≤ 63 := by omega
      clear SE hn
      go_wp2_with (go_at_call 40; refine (DK _ hV).mono ?_; rintro e w5 ⟨rfl, hK5, t5⟩; have l2 := (hN.touch t5 hne).fz 1; have l3 := (hN.touch t5 hne).c1)
      go_ret
      refine ⟨rfl, hD.gone hsp'.out ⟨?_, ?_, hne⟩ ((t5.mono (fun _ _ e => .inr e)).setCell (fun _ => .inl rfl))⟩
      · have h := (hN.touch t5 hne).set1 (.slice (some ⟨l.kb, 0, none⟩) (l.ks.length - 1) 63)
        have e : (l.ks.take i ++ l.ks.drop (i + 1)).length = l.ks.length - 1 := by simp; omega
        simp only [e]
        exact h
      · have h := hK5.touch ((Touch.refl (· = l.p) w5).setCell (o := 1) (v := .slice (some ⟨l.kb, 0, none⟩) (l.ks.length - 1) 63) (fun _ => rfl)) (fun e => hne e.symm)
        simp only [List.map_append, List.map_take, List.map_drop]
        exact h
end Go.Proofs.Ybulkbhty.Tree
