import Derived.Test.YbulkbhtyT10
namespace Go.Proofs.Ybulkbhty.Tree
open Go.RowKit Go.WideShapes Go.Lib

/-! ### The item set's block, and the tree as one thing -/
def setF (m pk root n size : Value) (j : Nat) : Value := if j = 0 then m else if j = 1 then pk else if j = 2 then root else if j = 3 then n else if j = 4 then .pointer none else size
def SetRow (w : World) (S : Nat) (m pk root n size : Value) : Prop := w.rowIs S 60 6 (setF m pk root n size)
namespace SetRow
variable {w w' : World} {S : Nat} {m pk root n size : Value}
theorem c0 (h : SetRow w S m pk root n size) : w.cell? ⟨S, 0, none⟩ = some m := World.rowIs.cell h (by omega)
theorem c1 (h : SetRow w S m pk root n size) : w.cell? ⟨S, 1, none⟩ = some pk := World.rowIs.cell h (by omega)
theorem c2 (h : SetRow w S m pk root n size) : w.cell? ⟨S, 2, none⟩ = some root := World.rowIs.cell h (by omega)
theorem c3 (h : SetRow w S m pk root n size) : w.cell? ⟨S, 3, none⟩ = some n := World.rowIs.cell h (by omega)
theorem c4 (h : SetRow w S m pk root n size) : w.cell? ⟨S, 4, none⟩ = some (.pointer none) := World.rowIs.cell h (by omega)
theorem c5 (h : SetRow w S m pk root n size) : w.cell? ⟨S, 5, none⟩ = some size := World.rowIs.cell h (by omega)
theorem fz (h : SetRow w S m pk root n size) (j : Nat) : w.frozen? ⟨S, j, none⟩ = false := World.rowIs.frozen h j
theorem lt (h : SetRow w S m pk root n size) : S < w.heap.size := row_lt h
theorem set0 (h : SetRow w S m pk root n size) (v : Value) : SetRow (w.setCell ⟨S, 0, none⟩ v) S v pk root n size := (World.rowIs.set h 0 v).congr fun j hj => by
  match j, hj with | 0, _ => rfl | 1, _ => rfl | 2, _ => rfl | 3, _ => rfl | 4, _ => rfl | 5, _ => rfl
theorem set1 (h : SetRow w S m pk root n size) (v : Value) : SetRow (w.setCell ⟨S, 1, none⟩ v) S m v root n size := (World.rowIs.set h 1 v).congr fun j hj => by
  match j, hj with | 0, _ => rfl | 1, _ => rfl | 2, _ => rfl | 3, _ => rfl | 4, _ => rfl | 5, _ => rfl
theorem set2 (h : SetRow w S m pk root n size) (v : Value) : SetRow (w.setCell ⟨S, 2, none⟩ v) S m pk v n size := (World.rowIs.set h 2 v).congr fun j hj => by
  match j, hj with | 0, _ => rfl | 1, _ => rfl | 2, _ => rfl | 3, _ => rfl | 4, _ => rfl | 5, _ => rfl
theorem set3 (h : SetRow w S m pk root n size) (v : Value) : SetRow (w.setCell ⟨S, 3, none⟩ v) S m pk root v size := (World.rowIs.set h 3 v).congr fun j hj => by
  match j, hj with | 0, _ => rfl | 1, _ => rfl | 2, _ => rfl | 3, _ => rfl | 4, _ => rfl | 5, _ => rfl
theorem set5 (h : SetRow w S m pk root n size) (v : Value) : SetRow (w.setCell ⟨S, 5, none⟩ v) S m pk root n v := (World.rowIs.set h 5 v).congr fun j hj => by
  match j, hj with | 0, _ => rfl | 1, _ => rfl | 2, _ => rfl | 3, _ => rfl | 4, _ => rfl | 5, _ => rfl
theorem touch {F : Nat → Prop} (h : SetRow w S m pk root n size) (ht : Touch F w w') (hF : ¬ F S) : SetRow w' S m pk root n size := ht.row h hF
end SetRow

inductive Tr where
  | nil
  | leaf (l : Lf)
  | two (r : Rt)
def Tr.ptr : Tr → Value
  | .nil => .pointer none
  | .leaf l => .pointer (some ⟨l.p, 0, none⟩)
  | .two r => .pointer (some ⟨r.p, 0, none⟩)
def Tr.flat : Tr → List Key
  | .nil => []
  | .leaf l => l.ks
  | .two r => r.flat
def Tr.blocks : Tr → List Nat
  | .nil => []
  | .leaf l => [l.p, l.kb]
  | .two r => r.blocks
def Tr.At (w : World) : Tr → Prop
  | .nil => True
  | .leaf l => LeafAt w l
  | .two r => RootAt w r
def Tr.Good : Tr → Prop
  | .nil => True
  | .leaf l => l.ks.length ≤ 63
  | .two r => Sizes r.cs ∧ 1 ≤ r.ks.length

theorem RootAt.touch {w w' : World} {r : Rt} {F : Nat → Prop} (h : RootAt w r) (ht : Touch F w w') (hF : ∀ b ∈ r.blocks, ¬ F b) : RootAt w' r :=
  ⟨h.node.touch ht (hF _ (by simp [Rt.blocks])), h.keys.touch ht (hF _ (by simp [Rt.blocks])), h.kids.touch ht (hF _ (by simp [Rt.blocks])),
   fun l hl => (h.leaf l hl).touch ht (hF _ (by have : l.p ∈ lblocks r.cs := mem_lblocks.2 ⟨l, hl, .inl rfl⟩; simp [Rt.blocks, this])) (hF _ (by have : l.kb ∈ lblocks r.cs := mem_lblocks.2 ⟨l, hl, .inr rfl⟩; simp [Rt.blocks, this])), h.nd, h.len⟩

theorem Tr.At.touch {w w' : World} {t : Tr} {F : Nat → Prop} (h : t.At w) (ht : Touch F w w') (hF : ∀ b ∈ t.blocks, ¬ F b) : t.At w' := by
  cases t with
  | nil => trivial
  | leaf l => exact LeafAt.touch h ht (hF _ (by simp [Tr.blocks])) (hF _ (by simp [Tr.blocks]))
  | two r => exact RootAt.touch h ht hF
theorem Tr.At.blk_lt {w : World} {t : Tr} (h : t.At w) : ∀ b ∈ t.blocks, b < w.heap.size := by
  cases t with
  | nil => intro b hb; simp [Tr.blocks] at hb
  | leaf l =>
    intro b hb
    simp [Tr.blocks] at hb
    rcases hb with rfl | rfl
    · exact LeafAt.lt1 h
    · exact LeafAt.lt2 h
  | two r => exact RootAt.blk_lt h

theorem inter_len : ∀ (A : List (List Key)) (P : List Key), A.length = P.length → (∀ a ∈ A, 31 ≤ a.length) → 32 * P.length ≤ (inter A P).length
  | [], [], _, _ => by simp
  | a :: A, p :: P, h, h31 => by
    have := inter_len A P (by simpa using h) (fun x hx => h31 x (by simp [hx]))
    have := h31 a (by simp)
    simp [inter]
    omega
  | [], _ :: _, h, _ => by simp at h
  | _ :: _, [], h, _ => by simp at h
theorem flat_len (r : Rt) (w : World) (h : RootAt w r) (hs : Sizes r.cs) : 32 * r.ks.length + 31 ≤ r.flat.length := by
  have hl := h.len
  obtain ⟨A, l, hA⟩ : ∃ A l, r.cs = A ++ [l] := ⟨r.cs.dropLast, r.cs.getLast (by intro e; rw [e] at hl; simp at hl), (List.dropLast_concat_getLast _).symm⟩
  have hal : A.length = r.ks.length := by rw [hA] at hl; simpa using hl
  rw [flat_leaf r A [] l r.ks [] hA (by simp) hal]
  have h1 := inter_len (A.map (·.ks)) r.ks (by simpa using hal) (fun a ha => by
    obtain ⟨l', hl', rfl⟩ := List.mem_map.1 ha
    exact (hs l' (by rw [hA]; simp [hl'])).1)
  have h2 := (hs l (by rw [hA]; simp)).1
  simp
  omega
theorem mem_flat_key {w : World} {r : Rt} (h : RootAt w r) : ∀ k ∈ r.ks, k ∈ r.flat := by
  intro k hk
  have hl := h.len
  obtain ⟨A, l, hA⟩ : ∃ A l, r.cs = A ++ [l] := ⟨r.cs.dropLast, r.cs.getLast (by intro e; rw [e] at hl; simp at hl), (List.dropLast_concat_getLast _).symm⟩
  have hal : A.length = r.ks.length := by rw [hA] at hl; simpa using hl
  rw [flat_leaf r A [] l r.ks [] hA (by simp) hal]
  have := mem_inter_key (A := A.map (·.ks)) (P := r.ks) (by simpa using hal) k hk
  simp [this]
theorem inter_sub : ∀ (A : List (List Key)) (P : List Key), A.length = P.length → List.Sublist P (inter A P)
  | [], [], _ => by simp [inter]
  | a :: A, p :: P, h => by
    simp only [inter]
    have := inter_sub A P (by simpa using h)
    exact (this.cons_cons p).trans (List.sublist_append_right a (p :: inter A P))
  | [], _ :: _, h => by simp at h
  | _ :: _, [], h => by simp at h
theorem rising_keys {w : World} {r : Rt} (h : RootAt w r) (hr : Rising r.flat) : Rising r.ks := by
  have hl := h.len
  obtain ⟨A, l, hA⟩ : ∃ A l, r.cs = A ++ [l] := ⟨r.cs.dropLast, r.cs.getLast (by intro e; rw [e] at hl; simp at hl), (List.dropLast_concat_getLast _).symm⟩
  have hal : A.length = r.ks.length := by rw [hA] at hl; simpa using hl
  rw [flat_leaf r A [] l r.ks [] hA (by simp) hal] at hr
  exact (List.pairwise_append.1 hr).1.sublist (inter_sub _ _ (by simpa using hal))
end Go.Proofs.Ybulkbhty.Tree
