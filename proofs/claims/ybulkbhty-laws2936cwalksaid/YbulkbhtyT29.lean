import Derived.Test.YbulkbhtyT27
import Derived.Test.YbulkbhtyT28
import Derived.Maps.AppendAt
namespace Go.Proofs.Ybulkbhty.Tree
open Go.RowKit Go.WideShapes Go.Lib Go.Maps

/-! ### The plain model: a list of items in memory -/
def cellsOf (M : List (Key × Value)) : List Value := M.flatMap fun p => [.string p.1, p.2]
theorem cellsOf_append (A B : List (Key × Value)) : cellsOf (A ++ B) = cellsOf A ++ cellsOf B := by simp [cellsOf]
theorem cellsOf_cons (p : Key × Value) (B : List (Key × Value)) : cellsOf (p :: B) = .string p.1 :: p.2 :: cellsOf B := by simp [cellsOf]
theorem cellsOf_len : ∀ M : List (Key × Value), (cellsOf M).length = M.length * 2
  | [] => rfl
  | p :: M => by rw [cellsOf_cons]; simp [cellsOf_len M]; omega
theorem cellsOf_name {X Y : List (Key × Value)} {p : Key × Value} : (cellsOf (X ++ p :: Y))[X.length * 2]? = some (.string p.1) := by
  rw [cellsOf_append, cellsOf_cons, List.getElem?_append_right (by rw [cellsOf_len]; omega), cellsOf_len]
  simp
theorem cellsOf_val {X Y : List (Key × Value)} {p : Key × Value} : (cellsOf (X ++ p :: Y))[X.length * 2 + 1]? = some p.2 := by
  rw [cellsOf_append, cellsOf_cons, List.getElem?_append_right (by rw [cellsOf_len]; omega), cellsOf_len, show X.length * 2 + 1 - X.length * 2 = 1 by omega]
  rfl

def MA (w : World) (v : Value) (M : List (Key × Value)) : Prop := (v = .slice none 0 0 ∧ M = []) ∨ ∃ g cap, v = .slice (some ⟨g, 0, none⟩) M.length cap ∧ Vec w g 35 (cap * 2) (cellsOf M) ∧ M.length ≤ cap ∧ cap ≤ maxLen
theorem MA.touch {w w' : World} {v : Value} {M : List (Key × Value)} {F : Nat → Prop} (h : MA w v M) (ht : Touch F w w') (hF : ∀ b, v.ownBlock = some b → ¬ F b) : MA w' v M := by
  rcases h with h | ⟨g, cap, rfl, hv, h1, h2⟩
  · exact .inl h
  · exact .inr ⟨g, cap, rfl, hv.touch ht (hF g rfl), h1, h2⟩
theorem MA.lt {w : World} {v : Value} {M : List (Key × Value)} (h : MA w v M) : ∀ b, v.ownBlock = some b → b < w.heap.size := by
  rcases h with ⟨rfl, _⟩ | ⟨g, cap, rfl, hv, h1, h2⟩
  · intro b hb; cases hb
  · intro b hb; cases hb; exact hv.lt

theorem MA.own {w : World} {v : Value} {M : List (Key × Value)} (h : MA w v M) : w.ownsRow 0 35 2 v M.length (cellsOf M) := by
  refine ⟨cellsOf_len M, ?_⟩
  rcases h with ⟨rfl, rfl⟩ | ⟨g, cap, rfl, ⟨f, ⟨cur, hc, hs, hf⟩, hl, hx⟩, h1, h2⟩
  · exact .inl ⟨rfl, rfl⟩
  · refine .inr ⟨g, cap, cur, rfl, Nat.zero_le _, hc, h1, h2, hs, ?_⟩
    apply List.ext_getElem?
    intro j
    by_cases hj : j < M.length * 2
    · rw [List.getElem?_take_of_lt hj]
      have hj2 : j < (cellsOf M).length := by rw [cellsOf_len]; exact hj
      rw [List.getElem?_eq_getElem hj2]
      have e := hx j _ (List.getElem?_eq_getElem hj2)
      rw [← e, Array.getElem?_toList]
      exact hf j (by omega)
    · rw [List.getElem?_eq_none (by simp; omega), List.getElem?_eq_none (by rw [cellsOf_len]; omega)]
theorem MA.of_own {w : World} {v : Value} {M : List (Key × Value)} (h : w.ownsRow 0 35 2 v M.length (cellsOf M)) : MA w v M := by
  obtain ⟨_, h⟩ := h
  rcases h with ⟨rfl, h0⟩ | ⟨g, cap, cur, rfl, _, hc, h1, h2, hs, ht⟩
  · exact .inl ⟨rfl, List.length_eq_zero_iff.1 h0⟩
  · refine .inr ⟨g, cap, rfl, ⟨fun j => cur.toList.getD j .nilIface, ⟨cur, hc, hs, fun i hi => ?_⟩, by rw [cellsOf_len]; omega, fun j u hj => ?_⟩, h1, h2⟩
    · have hi' : i < cur.size := by rw [hs]; exact hi
      simp [hi']
    · rw [← ht] at hj
      have hjl : j < M.length * 2 := by
        have := (List.getElem?_eq_some_iff.1 hj).1
        simp at this
        omega
      rw [List.getElem?_take_of_lt hjl] at hj
      simp only [List.getD_eq_getElem?_getD, hj]
      rfl

theorem info35 : (Yba.prog.info? 35).map (fun i => (i.zero, i.size, i.bytes)) = some (some (.agg #[.string ⟨#[]⟩, .slice none 0 0]), 2, 40) := by kernel_rfl

theorem MA.append {w : World} {v : Value} {M : List (Key × Value)} (h : MA w v M) (k : Key) (u : Value) (hu : SliceV u) (hM : M.length ≤ 1024) (sb : Nat) (hsrc : Vec w sb 35 2 [.string k, u]) (ty : TypeId) :
    ∃ v' w', (Builtin.append_ #[29, 29] ty #[v, .slice (some ⟨sb, 0, none⟩) 1 1]).run Yba.prog w = .ok v' w' ∧ MA w' v' (M ++ [(k, u)]) ∧ Touch (fun b => v.ownBlock = some b) w w' ∧ (v'.ownBlock = v.ownBlock ∨ v'.ownBlock = some w.heap.size) := by
  obtain ⟨i, hi, hz⟩ := Option.map_eq_some_iff.1 info35
  simp only [Prod.mk.injEq] at hz
  obtain ⟨hz0, hz1, hz2⟩ := hz
  obtain ⟨a, n, c, rfl, hn⟩ := hu
  obtain ⟨v', w', hr, h2, h3, _, h5⟩ := run_append_own_at (P := Yba.prog) w 0 29 ty 35 i (.agg #[.string ⟨#[]⟩, .slice none 0 0]) 2 40 Yba.underlying29 hi hz0 hz1 hz2 rfl (by omega) v M.length (cellsOf M) h.own ⟨sb, 0, none⟩ 1 1 [.string k, .slice a n c] rfl (fun j x hx => by
    rw [Addr.add_lit, Nat.zero_add]
    exact hsrc.cell hx) (fun x hx => by
      simp at hx
      rcases hx with rfl | rfl <;> rfl) (by unfold maxLen; omega) (by omega) (Nat.zero_le _)
  refine ⟨v', w', hr, MA.of_own ?_, ⟨h3.os, h3.tape, h3.output, h3.size, fun b hb hne => h3.block b hb (fun e => hne e.symm)⟩, h5⟩
  rw [cellsOf_append]
  simpa [cellsOf] using h2

/-! ### Plain facts on the model -/
theorem look_none {M : List (Key × Value)} {k : Key} : look M k = none ↔ k ∉ M.map (·.1) := by
  simp [look]
  constructor
  · intro h x hx; exact h k x hx rfl
  · intro h a b hab e; subst e; exact h b hab
theorem look_split {X Y : List (Key × Value)} {k : Key} {u : Value} (h : k ∉ X.map (·.1)) : look (X ++ (k, u) :: Y) k = some u := by
  have e : X.find? (fun p => decide (p.1 = k)) = none := by
    rw [List.find?_eq_none]
    intro p hp
    simp
    exact fun e => h (List.mem_map.2 ⟨p, hp, e⟩)
  simp [look, List.find?_append, e]
theorem look_other {X Y : List (Key × Value)} {k k' : Key} {u : Value} (h : k' ≠ k) : look (X ++ (k, u) :: Y) k' = look (X ++ Y) k' := by
  have e : (decide (k = k')) = false := by simp [Ne.symm h]
  simp [look, List.find?_append, e]

theorem puts_old {X Y : List (Key × Value)} {k : Key} {u v : Value} (h : k ∉ X.map (·.1)) : Puts (X ++ (k, u) :: Y) k v (X ++ (k, v) :: Y) :=
  ⟨look_split h, fun k' e => by rw [look_other e, look_other e], by rw [look_split h]; simp⟩
theorem puts_new {M : List (Key × Value)} {k : Key} {v : Value} (h : look M k = none) : Puts M k v (M ++ [(k, v)]) :=
  ⟨look_split (look_none.1 h), fun k' e => by rw [look_other e, List.append_nil], by rw [h]; simp⟩
theorem dels_old {X Y : List (Key × Value)} {k : Key} {u : Value} (h : ((X ++ (k, u) :: Y).map (·.1)).Nodup) : Dels (X ++ (k, u) :: Y) k (X ++ Y) := by
  rw [List.map_append, List.map_cons, List.nodup_append] at h
  have hX : k ∉ X.map (·.1) := fun e => h.2.2 k e k (by simp) rfl
  have hY : k ∉ Y.map (·.1) := (List.nodup_cons.1 h.2.1).1
  exact ⟨look_none.2 (by rw [List.map_append, List.mem_append]; exact fun e => e.elim hX hY), fun k' e => (look_other e).symm, by rw [look_split hX]; simp; omega⟩
theorem dels_new {M : List (Key × Value)} {k : Key} (h : look M k = none) : Dels M k M := ⟨h, fun _ _ => rfl, by rw [h]; simp⟩
theorem split_look {M : List (Key × Value)} {k : Key} {u : Value} (h : look M k = some u) : ∃ X Y, M = X ++ (k, u) :: Y ∧ k ∉ X.map (·.1) := by
  induction M with
  | nil => simp [look] at h
  | cons p M ih =>
    by_cases e : p.1 = k
    · refine ⟨[], M, ?_, by simp⟩
      simp [look, e] at h
      rw [← e, ← h]; rfl
    · have h' : look M k = some u := by
        have e' : decide (p.1 = k) = false := by simp [e]
        simpa [look, List.find?_cons, e'] using h
      obtain ⟨X, Y, rfl, hX⟩ := ih h'
      exact ⟨p :: X, Y, rfl, by simp only [List.map_cons, List.mem_cons]; exact fun h => h.elim (fun h => e h.symm) hX⟩
end Go.Proofs.Ybulkbhty.Tree
