import Derived.Test.YbulkbhtyT8
namespace Go.Proofs.Ybulkbhty.Tree
open Go.RowKit Go.WideShapes Go.Lib

theorem lblocks_same (A C : List Lf) (l l' : Lf) (h1 : l'.p = l.p) (h2 : l'.kb = l.kb) : lblocks (A ++ l' :: C) = lblocks (A ++ l :: C) := by
  rw [lblocks_append, lblocks_append, lblocks_cons, lblocks_cons, h1, h2]

/-- One leaf turned. -/
theorem RootAt.setLeaf {w w' : World} {r : Rt} {A C : List Lf} {l : Lf} (h : RootAt w r) (hcs : r.cs = A ++ l :: C) (ks : List Key) (hl : LeafAt w' { l with ks := ks }) (ht : Touch (fun b => b = l.p ∨ b = l.kb) w w') :
    RootAt w' { r with cs := A ++ { l with ks := ks } :: C } := by
  obtain ⟨p, kb, cb, rk, cs⟩ := r
  simp only at hcs
  subst hcs
  have ap : Apart p kb cb (A ++ l :: C) := apart_iff.1 h.nd
  obtain ⟨a1, a2, a3, a4, a5, a6⟩ := ap.l1 l (by simp)
  have la := leaf_apart ap.l2
  have hblocks : lblocks (A ++ { l with ks := ks } :: C) = lblocks (A ++ l :: C) := lblocks_same A C l _ rfl rfl
  refine ⟨?_, h.keys.touch ht (fun e => e.elim a3 a4), ?_, ?_, ?_, ?_⟩
  · have := h.node.touch ht (fun e => e.elim a1 a2)
    simpa using this
  · have := h.kids.touch ht (fun e => e.elim a5 a6)
    simpa [Lf.ptr] using this
  · intro l' hl'
    rcases List.mem_append.1 hl' with hm | hm
    · have := la.2 l' (by simp [hm])
      exact (h.leaf l' (by simp [hm])).touch ht (fun e => e.elim this.1 this.2.1) (fun e => e.elim this.2.2.1 this.2.2.2)
    · rcases List.mem_cons.1 hm with rfl | hm
      · exact hl
      · have := la.2 l' (by simp [hm])
        exact (h.leaf l' (by simp [hm])).touch ht (fun e => e.elim this.1 this.2.1) (fun e => e.elim this.2.2.1 this.2.2.2)
  · show (p :: kb :: cb :: lblocks (A ++ { l with ks := ks } :: C)).Nodup
    rw [hblocks]; exact h.nd
  · have := h.len
    simpa using this
theorem flat_leaf (r : Rt) (A C : List Lf) (l : Lf) (P Q : List Key) (hcs : r.cs = A ++ l :: C) (hks : r.ks = P ++ Q) (hl : A.length = P.length) : r.flat = inter (A.map (·.ks)) P ++ (l.ks ++ rest (C.map (·.ks)) Q) := by
  unfold Rt.flat
  rw [hcs, hks, List.map_append, List.map_cons]
  exact flat_at _ _ _ _ _ (by simpa using hl)

theorem ptr_one (cs : List Lf) : ∀ x ∈ cs.map Lf.ptr, x.oneCell' = true := fun x hx => by
  obtain ⟨l, _, rfl⟩ := List.mem_map.1 hx
  rfl
theorem LeafAt.lt1 {w : World} {l : Lf} (h : LeafAt w l) : l.p < w.heap.size := h.node.lt
theorem LeafAt.lt2 {w : World} {l : Lf} (h : LeafAt w l) : l.kb < w.heap.size := h.keys.lt
theorem RootAt.blk_lt {w : World} {r : Rt} (h : RootAt w r) : ∀ b ∈ r.blocks, b < w.heap.size := fun b hb => by
  rcases List.mem_cons.1 hb with rfl | hb
  · exact h.node.lt
  · rcases List.mem_cons.1 hb with rfl | hb
    · exact h.keys.lt
    · rcases List.mem_cons.1 hb with rfl | hb
      · exact h.kids.lt
      · obtain ⟨l, hl, e⟩ := mem_lblocks.1 hb
        rcases e with rfl | rfl
        · exact (h.leaf l hl).lt1
        · exact (h.leaf l hl).lt2

theorem lblocks_ins {A C : List Lf} {q : Lf} (h : (lblocks (A ++ C)).Nodup) (h1 : q.p ≠ q.kb) (h2 : q.p ∉ lblocks (A ++ C)) (h3 : q.kb ∉ lblocks (A ++ C)) : (lblocks (A ++ q :: C)).Nodup := by
  have e : List.Perm (lblocks (A ++ q :: C)) (q.p :: q.kb :: lblocks (A ++ C)) := by
    rw [lblocks_append, lblocks_cons, lblocks_append]
    exact List.perm_middle.trans (List.Perm.cons _ List.perm_middle)
  rw [e.nodup_iff]
  refine List.nodup_cons.2 ⟨fun hm => ?_, List.nodup_cons.2 ⟨h3, h⟩⟩
  rcases List.mem_cons.1 hm with e | hm
  · exact h1 e
  · exact h2 hm

theorem split_root (S : Nat) (r : Rt) (A C : List Lf) (l : Lf) (P Q L R : List Key) (m : Key) (w : World) (hO : w.cell? ⟨S, 4, none⟩ = some (.pointer none)) (h : RootAt w r) (hcs : r.cs = A ++ l :: C) (hks : r.ks = P ++ Q) (hAP : A.length = P.length)
    (hl : l.ks = L ++ m :: R) (hL : L.length = 31) (hR : R.length = 31) (hk : r.ks.length ≤ 60) :
    Calls Yba.prog 31 #[.pointer (some ⟨S, 2, none⟩), .pointer (some ⟨r.p, 0, none⟩), .int .i64 (P.length : Int)] w fun e w' => e = .returned (.tuple #[]) ∧ ∃ q : Lf, q.ks = R ∧ w.heap.size ≤ q.p ∧ w.heap.size ≤ q.kb ∧
      RootAt w' { r with ks := P ++ m :: Q, cs := A ++ { l with ks := L } :: q :: C } ∧ Touch (fun b => b = r.p ∨ b = r.kb ∨ b = r.cb ∨ b = l.p ∨ b = l.kb) w w' := by
  have hblt := h.blk_lt
  obtain ⟨p, kb, cb, rk, cs⟩ := r
  simp only at hcs hks hk hblt ⊢
  subst hcs hks
  have ap : Apart p kb cb (A ++ l :: C) := apart_iff.1 h.nd
  obtain ⟨a1, a2, a3, a4, a5, a6⟩ := ap.l1 l (by simp)
  have la := leaf_apart ap.l2
  have hl0 := h.leaf l (by simp)
  have hlen := h.len
  simp only [List.length_append, List.length_cons] at hlen hk
  have hnode := h.node
  simp only at hnode
  have hkids := h.kids
  simp only at hkids
  have hC : NodeAt w l.p (.slice (some ⟨l.kb, 0, none⟩) 63 63) (.slice none 0 0) := by
    have := hl0.node
    rw [hl] at this
    simpa [hL, hR] using this
  have hCK : Vec w l.kb 9 63 ((L ++ m :: R).map .string) := by rw [← hl]; exact hl0.keys
  have hxl : ((A ++ l :: C).map Lf.ptr).length = (A ++ l :: C).length := by simp
  have key := split_any S p kb cb l.p l.kb P.length (P ++ Q) L R m ((A ++ l :: C).map Lf.ptr) w hO (by rw [hxl]; exact hnode) h.keys hkids (ptr_one _) (by rw [List.map_append, List.getElem?_append_right (by simp [hAP])]; simp [hAP, Lf.ptr]) hC hCK hL hR (by simp) (by simp; omega) (by simp; omega) ap.d1 ap.d2 a1 a2 ap.d3 a3 a4 a5 a6 la.1
  refine key.mono ?_
  rintro e w' ⟨rfl, q, qb, hq, hqb, hne, n1, v1, n2, v2, n3, v3, v4, ht⟩
  refine ⟨rfl, ⟨q, qb, R⟩, rfl, hq, hqb, ⟨?_, ?_, ?_, ?_, ?_, ?_⟩, ht⟩
  · simpa [Nat.add_assoc] using n3
  · simpa using v3
  · simp only [List.map_append, List.map_cons] at v4 ⊢
    rw [show P.length + 1 = (A.map Lf.ptr ++ [Lf.ptr l]).length by simp [hAP], show A.map Lf.ptr ++ Lf.ptr l :: C.map Lf.ptr = (A.map Lf.ptr ++ [Lf.ptr l]) ++ C.map Lf.ptr by simp, List.take_left, List.drop_left] at v4
    simpa [Lf.ptr] using v4
  · intro l' hl'
    have old : ∀ l' ∈ A ++ C, LeafAt w' l' := fun l' hm => by
      have b := la.2 l' hm
      have hm' : l' ∈ A ++ l :: C := by
        rcases List.mem_append.1 hm with h | h
        · simp [h]
        · simp [h]
      obtain ⟨b1, b2, b3, b4, b5, b6⟩ := ap.l1 l' hm'
      exact (h.leaf l' hm').touch ht (fun e => e.elim (fun e => b1 e.symm) fun e => e.elim (fun e => b3 e.symm) fun e => e.elim (fun e => b5 e.symm) fun e => e.elim b.1 b.2.1) (fun e => e.elim (fun e => b2 e.symm) fun e => e.elim (fun e => b4 e.symm) fun e => e.elim (fun e => b6 e.symm) fun e => e.elim b.2.2.1 b.2.2.2)
    rcases List.mem_append.1 hl' with hm | hm
    · exact old l' (by simp [hm])
    · rcases List.mem_cons.1 hm with rfl | hm
      · exact ⟨by simpa [hL] using n2, v2, la.1⟩
      · rcases List.mem_cons.1 hm with rfl | hm
        · exact ⟨by simpa [hR] using n1, v1, hne⟩
        · exact old l' (by simp [hm])
  · refine apart_iff.2 ⟨ap.d1, ap.d2, ap.d3, fun l' hl' => ?_, ?_⟩
    · have hnew : ∀ b, b ∈ Rt.blocks ⟨p, kb, cb, P ++ Q, A ++ l :: C⟩ → b ≠ q ∧ b ≠ qb := fun b hb => by have := hblt b hb; omega
      have m1 := hnew p (by simp [Rt.blocks])
      have m2 := hnew kb (by simp [Rt.blocks])
      have m3 := hnew cb (by simp [Rt.blocks])
      rcases List.mem_append.1 hl' with hm | hm
      · exact ap.l1 l' (by simp [hm])
      · rcases List.mem_cons.1 hm with rfl | hm
        · exact ⟨a1, a2, a3, a4, a5, a6⟩
        · rcases List.mem_cons.1 hm with rfl | hm
          · exact ⟨m1.1, m1.2, m2.1, m2.2, m3.1, m3.2⟩
          · exact ap.l1 l' (by simp [hm])
    · have e : A ++ { l with ks := L } :: (⟨q, qb, R⟩ : Lf) :: C = (A ++ [{ l with ks := L }]) ++ (⟨q, qb, R⟩ : Lf) :: C := by simp
      have e2 : lblocks ((A ++ [{ l with ks := L }]) ++ C) = lblocks (A ++ l :: C) := by
        rw [List.append_assoc]
        exact lblocks_same A C l _ rfl rfl
      rw [e]
      refine lblocks_ins (by rw [e2]; exact ap.l2) hne ?_ ?_
      · rw [e2]; intro hm; have := hblt q (by simp [Rt.blocks, hm]); omega
      · rw [e2]; intro hm; have := hblt qb (by simp [Rt.blocks, hm]); omega
  · simp; omega
end Go.Proofs.Ybulkbhty.Tree
