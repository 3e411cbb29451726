import Derived.Test.YbulkbhtyT7
namespace Go.Proofs.Ybulkbhty.Tree
open Go.RowKit Go.WideShapes Go.Lib

/-- A root over leaves. -/
structure Rt where
  p : Nat
  kb : Nat
  cb : Nat
  ks : List Key
  cs : List Lf
def Lf.ptr (l : Lf) : Value := .pointer (some ⟨l.p, 0, none⟩)
def lblocks (cs : List Lf) : List Nat := cs.flatMap fun l => [l.p, l.kb]
def Rt.blocks (r : Rt) : List Nat := r.p :: r.kb :: r.cb :: lblocks r.cs
def Rt.flat (r : Rt) : List Key := Tree.flat (r.cs.map (·.ks)) r.ks
structure RootAt (w : World) (r : Rt) : Prop where
  node : NodeAt w r.p (.slice (some ⟨r.kb, 0, none⟩) r.ks.length 63) (.slice (some ⟨r.cb, 0, none⟩) r.cs.length 64)
  keys : Vec w r.kb 9 63 (r.ks.map .string)
  kids : Vec w r.cb 55 64 (r.cs.map Lf.ptr)
  leaf : ∀ l ∈ r.cs, LeafAt w l
  nd : r.blocks.Nodup
  len : r.cs.length = r.ks.length + 1

theorem mem_lblocks {cs : List Lf} {b : Nat} : b ∈ lblocks cs ↔ ∃ l ∈ cs, b = l.p ∨ b = l.kb := by simp [lblocks]
theorem lblocks_append (A C : List Lf) : lblocks (A ++ C) = lblocks A ++ lblocks C := by simp [lblocks]
theorem lblocks_cons (l : Lf) (C : List Lf) : lblocks (l :: C) = l.p :: l.kb :: lblocks C := by simp [lblocks]

/-- The root's own blocks and the leaves'. -/
structure Apart (p kb cb : Nat) (cs : List Lf) : Prop where
  d1 : p ≠ kb
  d2 : p ≠ cb
  d3 : kb ≠ cb
  l1 : ∀ l ∈ cs, p ≠ l.p ∧ p ≠ l.kb ∧ kb ≠ l.p ∧ kb ≠ l.kb ∧ cb ≠ l.p ∧ cb ≠ l.kb
  l2 : (lblocks cs).Nodup
theorem apart_iff {p kb cb : Nat} {cs : List Lf} : (p :: kb :: cb :: lblocks cs).Nodup ↔ Apart p kb cb cs := by
  constructor
  · intro h
    have h1 := List.nodup_cons.1 h
    have h2 := List.nodup_cons.1 h1.2
    have h3 := List.nodup_cons.1 h2.2
    refine ⟨fun e => h1.1 (by simp [e]), fun e => h1.1 (by simp [e]), fun e => h2.1 (by simp [e]), fun l hl => ?_, h3.2⟩
    have m1 : l.p ∈ lblocks cs := mem_lblocks.2 ⟨l, hl, .inl rfl⟩
    have m2 : l.kb ∈ lblocks cs := mem_lblocks.2 ⟨l, hl, .inr rfl⟩
    exact ⟨fun e => h1.1 (by rw [e]; simp [m1]), fun e => h1.1 (by rw [e]; simp [m2]), fun e => h2.1 (by rw [e]; simp [m1]), fun e => h2.1 (by rw [e]; simp [m2]), fun e => h3.1 (by rw [e]; exact m1), fun e => h3.1 (by rw [e]; exact m2)⟩
  · intro h
    have hn : ∀ b, b ∈ lblocks cs → b ≠ p ∧ b ≠ kb ∧ b ≠ cb := fun b hb => by
      obtain ⟨l, hl, e⟩ := mem_lblocks.1 hb
      obtain ⟨a1, a2, a3, a4, a5, a6⟩ := h.l1 l hl
      rcases e with rfl | rfl
      · exact ⟨a1.symm, a3.symm, a5.symm⟩
      · exact ⟨a2.symm, a4.symm, a6.symm⟩
    refine List.nodup_cons.2 ⟨fun hm => ?_, List.nodup_cons.2 ⟨fun hm => ?_, List.nodup_cons.2 ⟨fun hm => (hn _ hm).2.2 rfl, h.l2⟩⟩⟩
    · rcases List.mem_cons.1 hm with e | hm
      · exact h.d1 e
      · rcases List.mem_cons.1 hm with e | hm
        · exact h.d2 e
        · exact (hn _ hm).1 rfl
    · rcases List.mem_cons.1 hm with e | hm
      · exact h.d3 e
      · exact (hn _ hm).2.1 rfl
/-- One leaf against the others. -/
theorem leaf_apart {A C : List Lf} {l : Lf} (h : (lblocks (A ++ l :: C)).Nodup) : l.p ≠ l.kb ∧ ∀ l' ∈ A ++ C, l'.p ≠ l.p ∧ l'.p ≠ l.kb ∧ l'.kb ≠ l.p ∧ l'.kb ≠ l.kb := by
  rw [lblocks_append, lblocks_cons] at h
  have h1 := List.nodup_append.1 h
  have h2 := List.nodup_cons.1 h1.2.1
  have h3 := List.nodup_cons.1 h2.2
  refine ⟨fun e => h2.1 (by simp [e]), fun l' hl => ?_⟩
  rcases List.mem_append.1 hl with hl | hl
  · have m1 : l'.p ∈ lblocks A := mem_lblocks.2 ⟨l', hl, .inl rfl⟩
    have m2 : l'.kb ∈ lblocks A := mem_lblocks.2 ⟨l', hl, .inr rfl⟩
    exact ⟨h1.2.2 _ m1 _ (by simp), h1.2.2 _ m1 _ (by simp), h1.2.2 _ m2 _ (by simp), h1.2.2 _ m2 _ (by simp)⟩
  · have m1 : l'.p ∈ lblocks C := mem_lblocks.2 ⟨l', hl, .inl rfl⟩
    have m2 : l'.kb ∈ lblocks C := mem_lblocks.2 ⟨l', hl, .inr rfl⟩
    exact ⟨fun e => h2.1 (by rw [← e]; simp [m1]), fun e => h3.1 (by rw [← e]; exact m1), fun e => h2.1 (by rw [← e]; simp [m2]), fun e => h3.1 (by rw [← e]; exact m2)⟩
end Go.Proofs.Ybulkbhty.Tree
