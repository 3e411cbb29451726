import Derived.Test.YbulkbhtyT1
namespace Go.Proofs.Ybulkbhty.Tree

/-! ### The keys of a tree of two levels, in order -/
def inter : List (List Key) → List Key → List Key
  | c :: cs, k :: ks => c ++ k :: inter cs ks
  | _, _ => []
def flat : List (List Key) → List Key → List Key
  | [], _ => []
  | c :: _, [] => c
  | c :: cs, k :: ks => c ++ k :: flat cs ks
def rest (C : List (List Key)) : List Key → List Key
  | [] => []
  | k :: ks => k :: flat C ks

theorem flat_cons (c : List Key) (C : List (List Key)) (Q : List Key) : flat (c :: C) Q = c ++ rest C Q := by
  cases Q <;> simp [flat, rest]
theorem flat_at : ∀ (A : List (List Key)) (P : List Key) (c : List Key) (C : List (List Key)) (Q : List Key), A.length = P.length → flat (A ++ c :: C) (P ++ Q) = inter A P ++ (c ++ rest C Q)
  | [], [], c, C, Q, _ => by simp [inter, flat_cons]
  | [], _ :: _, _, _, _, h => by simp at h
  | _ :: _, [], _, _, _, h => by simp at h
  | a :: A, p :: P, c, C, Q, h => by
    simp only [List.cons_append, flat, inter, List.append_assoc]
    rw [flat_at A P c C Q (by simpa using h)]
theorem inter_snoc : ∀ (A : List (List Key)) (P : List Key) (c : List Key) (k : Key), A.length = P.length → inter (A ++ [c]) (P ++ [k]) = inter A P ++ (c ++ [k])
  | [], [], c, k, _ => by simp [inter]
  | [], _ :: _, _, _, h => by simp at h
  | _ :: _, [], _, _, h => by simp at h
  | a :: A, p :: P, c, k, h => by
    simp only [List.cons_append, inter, List.append_assoc]
    rw [inter_snoc A P c k (by simpa using h)]
theorem mem_inter_key : ∀ {A : List (List Key)} {P : List Key}, A.length = P.length → ∀ p ∈ P, p ∈ inter A P
  | [], [], _, p, hp => by simp at hp
  | [], _ :: _, h, _, _ => by simp at h
  | _ :: _, [], h, _, _ => by simp at h
  | a :: A, q :: P, h, p, hp => by
    simp only [inter, List.mem_append, List.mem_cons]
    rcases List.mem_cons.1 hp with rfl | hp
    · exact .inr (.inl rfl)
    · exact .inr (.inr (mem_inter_key (by simpa using h) p hp))

/-- All ahead of k, where the keys are. -/
theorem inter_lt {k : Key} : ∀ {A : List (List Key)} {P : List Key}, Rising (inter A P) → (∀ p ∈ P, KLt p k) → ∀ x ∈ inter A P, KLt x k
  | [], P, _, _, x, hx => by cases P <;> simp [inter] at hx
  | _ :: _, [], _, _, x, hx => by simp [inter] at hx
  | a :: A, p :: P, hr, hp, x, hx => by
    simp only [inter] at hr hx
    have h := List.pairwise_append.1 hr
    have h2 := List.pairwise_cons.1 h.2.1
    rcases List.mem_append.1 hx with hx | hx
    · exact (h.2.2 x hx p (by simp)).trans (hp p (by simp))
    · rcases List.mem_cons.1 hx with rfl | hx
      · exact hp _ (by simp)
      · exact inter_lt h2.2 (fun q hq => hp q (by simp [hq])) x hx
theorem rest_gt {k : Key} {C : List (List Key)} {Q : List Key} (hr : Rising (rest C Q)) (hq : ∀ q ∈ Q, KLt k q) : ∀ x ∈ rest C Q, KLt k x := by
  cases Q with
  | nil => intro x hx; simp [rest] at hx
  | cons q Q =>
    intro x hx
    simp only [rest] at hr hx
    have h := List.pairwise_cons.1 hr
    rcases List.mem_cons.1 hx with rfl | hx
    · exact hq _ (by simp)
    · exact (hq q (by simp)).trans (h.1 x hx)

/-- A key put between. -/
theorem Rising.put {X Y : List Key} {k : Key} (h : Rising (X ++ Y)) (hx : ∀ x ∈ X, KLt x k) (hy : ∀ y ∈ Y, KLt k y) : Rising (X ++ k :: Y) := by
  have h' := List.pairwise_append.1 h
  refine List.pairwise_append.2 ⟨h'.1, List.pairwise_cons.2 ⟨hy, h'.2.1⟩, fun x hxx y hyy => ?_⟩
  rcases List.mem_cons.1 hyy with rfl | hyy
  · exact hx x hxx
  · exact h'.2.2 x hxx y hyy
/-- A key taken out. -/
theorem Rising.take {X Y : List Key} {k : Key} (h : Rising (X ++ k :: Y)) : Rising (X ++ Y) := by
  have h' := List.pairwise_append.1 h
  exact List.pairwise_append.2 ⟨h'.1, (List.pairwise_cons.1 h'.2.1).2, fun x hxx y hyy => h'.2.2 x hxx y (by simp [hyy])⟩
theorem Rising.not_mem {X Y : List Key} {k : Key} (h : Rising (X ++ k :: Y)) : k ∉ X ++ Y := by
  have h' := List.pairwise_append.1 h
  intro hm
  rcases List.mem_append.1 hm with hm | hm
  · exact KLt.irrefl k (h'.2.2 k hm k (by simp))
  · exact KLt.irrefl k ((List.pairwise_cons.1 h'.2.1).1 k hm)
end Go.Proofs.Ybulkbhty.Tree
