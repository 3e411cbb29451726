import Derived.Test.YbulkbhtkA1
import Derived.Laws.CopyOwn
import Derived.Deep.QuietTactic
import Derived.BigQuiet
namespace Go.Proofs.Ybulkbhtk
open Go.RowKit Go.WideShapes

theorem f64bits (b : Nat) (w : World) : (callFunc 6 #[.float .f64 b]).run Yba.prog w = .ok (.value (.int .u64 b)) w := by kernel_rfl
theorem info3 : (Yba.prog.info? 3).map (fun i => (i.zero, i.size, i.bytes)) = some (some (.int .i64 0), 1, 8) := by kernel_rfl
theorem info31 : (Yba.prog.info? 31).map (fun i => (i.zero, i.size, i.bytes)) = some (some (.float .f64 0), 1, 8) := by kernel_rfl
theorem size3 : (Yba.prog.info? 3).map (·.size) = some 1 := by kernel_rfl
theorem size31 : (Yba.prog.info? 31).map (·.size) = some 1 := by kernel_rfl

/-- A slice that came in: no element; or its cells lie at an address. -/
def Arr (w : World) (a : Option Addr) (n : Nat) (f : Nat → Value) : Prop :=
  n = 0 ∨ ∃ b off, a = some ⟨b, off, none⟩ ∧ ∀ i, i < n → w.cell? ⟨b, off + i, none⟩ = some (f i)

theorem lt_of_cell {w : World} {a : Addr} {v : Value} (h : w.cell? a = some v) : a.block < w.heap.size := by
  rcases Nat.lt_or_ge a.block w.heap.size with h' | h'
  · exact h'
  · simp [World.cell?, Array.getElem?_eq_none h'] at h

theorem Arr.below {w w' : World} {a n f} (h : Arr w a n f) (hb : Below w.heap.size w w') : Arr w' a n f := by
  rcases h with h | ⟨b, off, rfl, h⟩
  · exact .inl h
  · exact .inr ⟨b, off, rfl, fun i hi => (hb.cell (p := ⟨b, off + i, none⟩) (lt_of_cell (h i hi))).trans (h i hi)⟩

theorem Arr.below' {w w' : World} {a n f} {B : Nat} (h : Arr w a n f) (hb : Below B w w') (hB : B = w.heap.size) : Arr w' a n f := by subst hB; exact h.below hb

theorem Arr.of_row {w : World} {g t n f} (h : w.rowIs g t n f) : Arr w (some ⟨g, 0, none⟩) n f := .inr ⟨g, 0, rfl, fun i hi => by simpa using h.cell hi⟩

/-- 'copy(dst, src)', dst a row of the call's own, whole; src of the same length. -/
theorem wpList_copy_arr {P : Program} {w : World} {ops : Array Oper} {rest : List Oper} {o : Oper} {a : Act} {Q : Exit → Act → World → Prop} (hgd : o.guard = none) (d s : Operand) (dT sT : TypeId)
    (ho : o.op = .call { callee := .builtin .copy, args := #[d, s], argTypes := #[dT, sT] }) (elem : TypeId) (hu : P.underlying dT = some (.slice elem)) (hsz : (P.info? elem).map (·.size) = some 1)
    (g n dCap sCap : Nat) (sp : Option Addr) (hd : a.eval d = .slice (some ⟨g, 0, none⟩) n dCap) (hs : a.eval s = .slice sp n sCap)
    (t : TypeId) (f0 F : Nat → Value) (hrow : w.rowIs g t n f0) (hsrc : Arr w sp n F) (h1 : ∀ i, i < n → (F i).oneCell' = true)
    (h : ∀ w', w'.rowIs g t n F → Only g w w' → wpList P ops Q rest (a.put o.dst (goInt n)) w') : wpList P ops Q (o :: rest) a w := by
  rcases hsrc with rfl | ⟨b, off, rfl, hc⟩
  · refine wpList_copy_nothing hgd d s dT sT ho elem hu hsz _ _ _ _ _ _ hd hs (by simp) ?_
    exact h w (hrow.congr fun i hi => absurd hi (Nat.not_lt_zero _)) (Only.refl _ _)
  · obtain ⟨c, hb, hn, _⟩ := hrow
    refine wpList_copy_own hgd d s dT sT ho elem hu hsz g 0 n dCap ⟨b, off, none⟩ n sCap hd hs c t hb ((List.range n).map F) (by simp) (fun j v hj => ?_) (by simp [hn]) (fun v hv => ?_) ?_
    · simp only [List.getElem?_map] at hj
      by_cases hjn : j < n
      · rw [List.getElem?_range hjn] at hj
        simp at hj; subst hj
        have := hc j hjn
        rwa [← add_plain] at this
      · rw [List.getElem?_eq_none (by simp; omega)] at hj
        simp at hj
    · simp at hv
      obtain ⟨i, hi, rfl⟩ := hv
      exact h1 i hi
    · have hl : (c.toList.take 0 ++ ((List.range n).map F ++ c.toList.drop (0 + ((List.range n).map F).length))) = (List.range n).map F := by
        simp [hn]
      rw [hl]
      have key := h (w.setRow g ((List.range n).map F).toArray) ⟨((List.range n).map F).toArray, setRow_heap w g _ _ t _ hb, by simp, fun i hi => by simp [hi]⟩
        ⟨rfl, rfl, rfl, by simp [World.setRow], fun k hk => setRow_other w g k _ hk⟩
      simpa using key

def ofv (m q : Nat) (L : Nat → Int) (j : Nat) : Int := if j < q then L j % (m + 1) - 1 else -1
theorem ofv_in (m q : Nat) (L : Nat → Int) (j : Nat) : -1 ≤ ofv m q L j ∧ ofv m q L j < m := by
  unfold ofv
  split
  · have h1 := Int.emod_nonneg (L j) (show ((m : Int) + 1) ≠ 0 by omega)
    have h2 := Int.emod_lt_of_pos (L j) (show 0 < ((m : Int) + 1) by omega)
    omega
  · omega

end Go.Proofs.Ybulkbhtk
