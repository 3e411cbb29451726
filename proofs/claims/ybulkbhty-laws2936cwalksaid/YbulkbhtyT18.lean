import Derived.Test.YbulkbhtyT17
namespace Go.Proofs.Ybulkbhty.Tree
open Go.RowKit Go.WideShapes Go.Lib

/-- Two leaves of 31 keys joined: what fill's contract wants. -/
theorem filled_join {r : Rt} {A C : List Lf} {l1 l2 l : Lf} {P Q : List Key} {m : Key} {w w' : World} (hs : Sizes r.cs) (hcs : r.cs = A ++ l1 :: l2 :: C) (hks : r.ks = P ++ m :: Q) (hAP : A.length = P.length) (h1 : l1.ks.length = 31) (h2 : l2.ks.length = 31) (hl : l = l1 ∨ l = l2)
    (hR : RootAt w' { r with ks := P ++ Q, cs := A ++ { l1 with ks := l1.ks ++ m :: l2.ks } :: C }) (ht : Touch (· ∈ seven r l1 l2) w w') :
    Filled r w l { r with ks := P ++ Q, cs := A ++ { l1 with ks := l1.ks ++ m :: l2.ks } :: C } A { l1 with ks := l1.ks ++ m :: l2.ks } C P Q w' := by
  rw [hcs] at hs
  refine ⟨rfl, rfl, hAP, by simp; omega, fun x hx => ?_, ?_, hR, rfl, ?_, ?_, ht.mono (fun y _ hy => seven_sub hcs y hy)⟩
  · rcases hl with rfl | rfl
    · simp [hx]
    · simp [hx]
  · rw [flat_leaf r A (l2 :: C) l1 P (m :: Q) hcs hks hAP, flat_leaf { r with ks := P ++ Q, cs := A ++ { l1 with ks := l1.ks ++ m :: l2.ks } :: C } A C { l1 with ks := l1.ks ++ m :: l2.ks } P Q rfl rfl hAP]
    simp [rest, flat_cons]
  · intro l' hl'
    rcases List.mem_append.1 hl' with hm | hm
    · exact hs l' (by simp [hm])
    · rcases List.mem_cons.1 hm with rfl | hm
      · simp [h1, h2]
      · exact hs l' (by simp [hm])
  · intro b hb
    simp only [Rt.blocks, hcs, lblocks_append, lblocks_cons, List.mem_cons, List.mem_append] at hb ⊢
    rcases hb with h | h | h | h | h | h | h <;> simp [h]

set_option maxHeartbeats 4000000 in
set_option maxRecDepth 100000 in
theorem fill_mr (S : Nat) (r : Rt) (A C : List Lf) (l1 l2 : Lf) (P Q : List Key) (m : Key) (w : World) (hO : w.cell? ⟨S, 4, none⟩ = some (.pointer none)) (h : RootAt w r) (hs : Sizes r.cs) (hcs : r.cs = A ++ l1 :: l2 :: C) (hks : r.ks = P ++ m :: Q) (hAP : A.length = P.length) (hno : NoLeft A) (h31 : l1.ks.length = 31) (h31r : l2.ks.length = 31) :
    Calls Yba.prog 41 #[.pointer (some ⟨S, 2, none⟩), .pointer (some ⟨r.p, 0, none⟩), .int .i64 (P.length : Int)] w fun e w' => ∃ r1 A' l' C' P' Q', e = .returned (.pointer (some ⟨l'.p, 0, none⟩)) ∧ Filled r w l1 r1 A' l' C' P' Q' w' := by
  have hA1 := h.leaf l1 (by rw [hcs]; simp)
  have hA2 := h.leaf l2 (by rw [hcs]; simp)
  have hc1 : (r.cs.map Lf.ptr)[P.length]? = some (.pointer (some ⟨l1.p, 0, none⟩)) := by rw [hcs, ← hAP]; simp [Lf.ptr]
  have hc2 : (r.cs.map Lf.ptr)[P.length + 1]? = some (.pointer (some ⟨l2.p, 0, none⟩)) := by rw [hcs, ← hAP, List.map_append, List.getElem?_append_right (by simp)]; simp [Lf.ptr]
  have hk63 : r.ks.length ≤ 63 := by obtain ⟨f, _, h, _⟩ := h.keys; simpa using h
  have hP62 : P.length ≤ 62 := by rw [hks] at hk63; simp at hk63; omega
  have hn0 : Hid (A.length = 0 ∨ ∃ a c n k : Nat, A.length = n + 1 ∧ w.cell? ⟨r.cb, n, none⟩ = some (.pointer (some ⟨a, 0, none⟩)) ∧ w.cell? ⟨a, 1, none⟩ = some (.slice (some ⟨c, 0, none⟩) k 63) ∧ k < 32) := hno.cells h (C := l1 :: l2 :: C) hcs
  rw [hAP] at hn0
  have CH1 := fun W hO' hN' hV' hC' => child_any S r.p r.cb P.length (.slice (some ⟨r.kb, 0, none⟩) r.ks.length 63) (r.cs.map Lf.ptr) l1.p (.slice (some ⟨l1.kb, 0, none⟩) l1.ks.length 63) (.slice none 0 0) W hO' hN' hV' hc1 hC'
  rw [List.length_map] at CH1
  have c1 := hA1.node.c1
  have c2 := h.node.c2
  have c3 := h.kids.cell hc2
  have c4 := hA2.node.c1
  have c5 := h.node.c1
  rw [h31r] at c4
  rw [h31] at c1
  have i1 : (P.length : Int) + 1 < (r.cs.length : Int) := by rw [hcs]; simp; omega
  have i0' : (0 : Int) ≤ (P.length : Int) + 1 := by omega
  have i2 : (P.length : Int) < (r.cs.length : Int) := by omega
  have i3 : (P.length : Int) < (r.ks.length : Int) := by rw [hks]; simp; omega
  have MR := fun W hO' h' => merge_root S r A C l1 l2 P Q m W hO' h' hcs hks hAP (by omega)
  have fin := fun w' hR ht => filled_join (w := w) (w' := w') hs hcs hks hAP h31 h31r (.inl rfl) hR ht
  have hRn : ∀ n, RootAt (w.drewN n) r := fun n => h.touch ((Touch.refl (fun _ => False) w).drewN n) (fun _ _ => id)
  clear hcs hks h31 h31r hc1 hc2
  go_enter Yba.func41, Yba.ntmps41
  go_upto_region 4 with (go_at_call 39; refine (CH1 _ (by exact hO) (by exact h.node) (by exact h.kids) (by exact hA1.node)).mono ?_; rintro e w2 ⟨rfl, n, rfl⟩)
  go_cut [38] from 22 to 37 (fun v wx => v = .bool false ∧ wx = w.drewN n)
  case first =>
    rcases hn0.out with e0 | ⟨a', c', n', k', e0, q1, q2, q3⟩
    · have z1 : ¬ (0 : Int) < (P.length : Int) := by omega
      clear e0
      go_wp2_with fail
      go_meet
      exact ⟨rfl, rfl⟩
    · have z1 : (0 : Int) < (P.length : Int) := by omega
      have z2 : (P.length : Int) - 1 = (n' : Int) := by omega
      have z3 : (n' : Int) < (r.cs.length : Int) := by omega
      have z4 : ¬ (32 : Int) ≤ (k' : Int) := by omega
      clear e0
      go_wp2_with fail
      go_meet
      exact ⟨rfl, rfl⟩
  case rest =>
    obtain ⟨rfl, rfl⟩ := hcut
    go_wp2_with (go_at_call 44; refine (MR _ (by exact hO) (hRn _)).mono ?_; rintro e w3 ⟨rfl, hR3, t3⟩)
    go_ret
    exact ⟨_, _, { l1 with ks := l1.ks ++ m :: l2.ks }, _, _, _, rfl, fin _ hR3 (((Touch.refl (· ∈ seven r l1 l2) w).drewN _).trans t3 (fun _ _ e => e))⟩

set_option maxHeartbeats 4000000 in
set_option maxRecDepth 100000 in
theorem fill_ml (S : Nat) (r : Rt) (A : List Lf) (l1 l2 : Lf) (P : List Key) (m : Key) (w : World) (hO : w.cell? ⟨S, 4, none⟩ = some (.pointer none)) (h : RootAt w r) (hs : Sizes r.cs) (hcs : r.cs = A ++ l1 :: l2 :: []) (hks : r.ks = P ++ m :: []) (hAP : A.length = P.length) (h31 : l1.ks.length = 31) (h31r : l2.ks.length = 31) :
    Calls Yba.prog 41 #[.pointer (some ⟨S, 2, none⟩), .pointer (some ⟨r.p, 0, none⟩), .int .i64 ((P.length : Int) + 1)] w fun e w' => ∃ r1 A' l' C' P' Q', e = .returned (.pointer (some ⟨l'.p, 0, none⟩)) ∧ Filled r w l2 r1 A' l' C' P' Q' w' := by
  have hA1 := h.leaf l1 (by rw [hcs]; simp)
  have hA2 := h.leaf l2 (by rw [hcs]; simp)
  have hc1 : (r.cs.map Lf.ptr)[P.length]? = some (.pointer (some ⟨l1.p, 0, none⟩)) := by rw [hcs, ← hAP]; simp [Lf.ptr]
  have hc2 : (r.cs.map Lf.ptr)[P.length + 1]? = some (.pointer (some ⟨l2.p, 0, none⟩)) := by rw [hcs, ← hAP, List.map_append, List.getElem?_append_right (by simp)]; simp [Lf.ptr]
  have hk63 : r.ks.length ≤ 63 := by obtain ⟨f, _, h, _⟩ := h.keys; simpa using h
  have hP62 : P.length ≤ 62 := by rw [hks] at hk63; simp at hk63; omega
  have CH2 := fun W hO' hN' hV' hC' => child_any S r.p r.cb (P.length + 1) (.slice (some ⟨r.kb, 0, none⟩) r.ks.length 63) (r.cs.map Lf.ptr) l2.p (.slice (some ⟨l2.kb, 0, none⟩) l2.ks.length 63) (.slice none 0 0) W hO' hN' hV' hc2 hC'
  rw [List.length_map, show ((P.length + 1 : Nat) : Int) = (P.length : Int) + 1 by omega] at CH2
  have c1 := hA1.node.c1
  have c2 := h.node.c2
  have c3 := h.kids.cell hc1
  have c4 := hA2.node.c1
  have c5 := h.node.c1
  rw [h31r] at c4
  rw [h31] at c1
  have i1 : (P.length : Int) + 1 < (r.cs.length : Int) := by rw [hcs]; simp; omega
  have i0' : (0 : Int) < (P.length : Int) + 1 := by omega
  have i2 : (P.length : Int) < (r.cs.length : Int) := by omega
  have i3 : ¬ (P.length : Int) + 1 < (r.ks.length : Int) := by rw [hks]; simp
  have i7 : (P.length : Int) + 1 - 1 = (P.length : Int) := by omega
  have MR := fun W hO' h' => merge_root S r A [] l1 l2 P [] m W hO' h' hcs hks hAP (by omega)
  have fin := fun w' hR ht => filled_join (w := w) (w' := w') hs hcs hks hAP h31 h31r (.inr rfl) hR ht
  have hRn : ∀ n, RootAt (w.drewN n) r := fun n => h.touch ((Touch.refl (fun _ => False) w).drewN n) (fun _ _ => id)
  clear hcs hks h31 h31r hc1 hc2
  go_enter Yba.func41, Yba.ntmps41
  go_wp2_with (first | (go_at_call 39; refine (CH2 _ (by exact hO) (by exact h.node) (by exact h.kids) (by exact hA2.node)).mono ?_; rintro e w2 ⟨rfl, n, rfl⟩) | (go_at_call 44; refine (MR _ (by exact hO) (hRn _)).mono ?_; rintro e w3 ⟨rfl, hR3, t3⟩))
  go_ret
  exact ⟨_, _, { l1 with ks := l1.ks ++ m :: l2.ks }, _, _, _, rfl, fin _ hR3 (((Touch.refl (· ∈ seven r l1 l2) w).drewN _).trans t3 (fun _ _ e => e))⟩

theorem snoc_of_ne {α : Type} {L : List α} (h : L ≠ []) : ∃ A a, L = A ++ [a] := ⟨L.dropLast, L.getLast h, (List.dropLast_concat_getLast h).symm⟩

/-- fill, whichever way it goes. -/
theorem fill_root (S : Nat) (r : Rt) (A C : List Lf) (l : Lf) (P Q : List Key) (w : World) (hO : w.cell? ⟨S, 4, none⟩ = some (.pointer none)) (h : RootAt w r) (hs : Sizes r.cs) (h1 : 1 ≤ r.ks.length) (hcs : r.cs = A ++ l :: C) (hks : r.ks = P ++ Q) (hAP : A.length = P.length) :
    Calls Yba.prog 41 #[.pointer (some ⟨S, 2, none⟩), .pointer (some ⟨r.p, 0, none⟩), .int .i64 (P.length : Int)] w fun e w' => ∃ r1 A' l' C' P' Q', e = .returned (.pointer (some ⟨l'.p, 0, none⟩)) ∧ Filled r w l r1 A' l' C' P' Q' w' := by
  have hl := h.len
  rw [hcs, hks] at hl
  simp only [List.length_append, List.length_cons] at hl
  by_cases h32 : 32 ≤ l.ks.length
  · exact fill_zero S r A C l P Q w hO h hs hcs hks hAP h32
  · have h31 : l.ks.length = 31 := by have := (hs l (by rw [hcs]; simp)).1; omega
    by_cases hleft : ∃ A0 a, A = A0 ++ [a] ∧ 32 ≤ a.ks.length
    · obtain ⟨A0, a, rfl, ha⟩ := hleft
      obtain ⟨P0, p, rfl⟩ := snoc_of_ne (L := P) (by intro e; rw [e] at hAP; simp at hAP)
      obtain ⟨L, x, hx⟩ := snoc_of_ne (L := a.ks) (by intro e; rw [e] at ha; simp at ha)
      have e := fill_left S r A0 C a l P0 Q L p x w hO h hs (by rw [hcs]; simp) (by rw [hks]; simp) (by simpa using hAP) h31 hx (by rw [hx] at ha; simp at ha; omega)
      rw [show (((P0 ++ [p]).length : Nat) : Int) = (P0.length : Int) + 1 by simp]
      exact e
    · have hno : NoLeft A := by
        by_cases e : A = []
        · exact .inl e
        · obtain ⟨A0, a, ha⟩ := snoc_of_ne e
          refine .inr ⟨A0, a, ha, ?_⟩
          by_cases e2 : 32 ≤ a.ks.length
          · exact absurd ⟨A0, a, ha, e2⟩ hleft
          · omega
      cases C with
      | cons c C0 =>
        cases Q with
        | nil => simp at hl; omega
        | cons q Q0 =>
          by_cases hc : 32 ≤ c.ks.length
          · cases hck : c.ks with
            | nil => rw [hck] at hc; simp at hc
            | cons x R => exact fill_right S r A C0 l c P Q0 R q x w hO h hs hcs hks hAP hno h31 hck (by rw [hck] at hc; simp at hc; omega)
          · exact fill_mr S r A C0 l c P Q0 q w hO h hs hcs hks hAP hno h31 (by have := (hs c (by rw [hcs]; simp)).1; omega)
      | nil =>
        have hQ : Q = [] := by simp at hl; exact List.length_eq_zero_iff.1 (by omega)
        subst hQ
        rcases hno with rfl | ⟨A0, a, rfl, ha⟩
        · exfalso
          rw [hks] at h1
          simp at hAP h1
          omega
        · obtain ⟨P0, p, rfl⟩ := snoc_of_ne (L := P) (by intro e; rw [e] at hAP; simp at hAP)
          have e := fill_ml S r A0 a l P0 p w hO h hs (by rw [hcs]; simp) (by rw [hks]; simp) (by simpa using hAP) (by have := (hs a (by rw [hcs]; simp)).1; omega) h31
          rw [show (((P0 ++ [p]).length : Nat) : Int) = (P0.length : Int) + 1 by simp]
          exact e
end Go.Proofs.Ybulkbhty.Tree
