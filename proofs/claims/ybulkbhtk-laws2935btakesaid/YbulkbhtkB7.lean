import Derived.Test.YbulkbhtkB6
import Derived.Deep.DeepCutAuto
import Derived.BigRegion
namespace Go.Proofs.Ybulkbhtk
open Go.RowKit

def mkOf (D : Nat → Int) : Nat → Int
  | 0 => 0
  | i + 1 => mkOf D i + 1 + D i % 100
theorem mkOf_bd (D : Nat → Int) (i : Nat) : 0 ≤ mkOf D i ∧ mkOf D i ≤ 100 * i := by
  induction i with
  | zero => simp [mkOf]
  | succ i ih =>
    have h1 := Int.emod_nonneg (D i) (show (100 : Int) ≠ 0 by omega)
    have h2 := Int.emod_lt_of_pos (D i) (show (0 : Int) < 100 by omega)
    simp only [mkOf]; omega
theorem mkOf_lt (D : Nat → Int) (i j : Nat) (h : i < j) : mkOf D i < mkOf D j := by
  induction j with
  | zero => omega
  | succ j ih =>
    have h1 := Int.emod_nonneg (D j) (show (100 : Int) ≠ 0 by omega)
    have e : mkOf D (j + 1) = mkOf D j + 1 + D j % 100 := rfl
    by_cases hij : i = j
    · subst hij; omega
    · have := ih (by omega); omega

theorem ids_any (w : World) : Calls Yba.prog 7 #[] w fun e w' => e = .returned (.slice (some ⟨w.heap.size, 0, none⟩) 5 5) ∧ w' = w.alloc (.cells #[.string (idOf 0), .string (idOf 1), .string (idOf 2), .string (idOf 3), .string (idOf 4)] 9) := by
  go_enter Yba.func7, Yba.ntmps7
  go_wp2
  go_ret
  exact ⟨rfl, rfl⟩

set_option maxRecDepth 100000 in
set_option maxHeartbeats 400000 in
theorem lawB_big (a0 a4 : Option Addr) (d c0 nT c4 : Nat) (pu nk mask : Int) (w : World) (h : 1024 < d ∨ 1024 < nT) :
    Calls Yba.prog 4 #[.slice a0 d c0, .int .u8 pu, .int .u8 nk, .int .u8 mask, .slice a4 nT c4] w fun e w' => e = .returned (.bool true) ∧ Below w.heap.size w w' := by
  by_cases h1 : 1024 < d
  · clear h
    go_enter Yba.func4, Yba.ntmps4
    go_wp2
    go_ret
    exact ⟨rfl, Below.refl _ _⟩
  · have h3 : 1024 < nT := by omega
    clear h
    go_enter Yba.func4, Yba.ntmps4
    go_wp2
    go_ret
    exact ⟨rfl, Below.refl _ _⟩

theorem mrow_set {w : World} {g m k : Nat} {D : Nat → Int} (h : w.rowIs g 37 m (fun j => .int .i64 (if j < k then mkOf D j else 0))) :
    (w.setCell ⟨g, k, none⟩ (.int .i64 (mkOf D k))).rowIs g 37 m (fun j => .int .i64 (if j < k + 1 then mkOf D j else 0)) := by
  refine (h.set k _).congr fun j _ => ?_
  by_cases e : j = k
  · subst e; simp
  · by_cases hj : j < k
    · simp [e, hj, Nat.lt_succ_of_lt hj]
    · simp [e, hj, show ¬ j < k + 1 by omega]

theorem info37 : (Yba.prog.info? 37).map (fun i => (i.zero, i.size, i.bytes)) = some (some (.int .i64 0), 1, 8) := by kernel_rfl
theorem info24 : (Yba.prog.info? 24).map (fun i => (i.zero, i.size, i.bytes)) = some (some (.slice none 0 0), 1, 24) := by kernel_rfl
theorem info4 : (Yba.prog.info? 4).map (fun i => (i.zero, i.size, i.bytes)) = some (some (.bool false), 1, 1) := by kernel_rfl
theorem info57 : (Yba.prog.info? 57).map (fun i => (i.zero, i.size, i.bytes)) = some (some (.slice none 0 0), 1, 24) := by kernel_rfl


/-! ### The second loop: one constituent a round -/
def cellOf (e : Nat) : Value := .int .i64 (e : Int)

structure Set2 (B n m : Nat) (mk : Nat → Int) (k : Nat) (ia : Nat → Option Addr) (ic : Nat → Nat) (il : Nat → List Nat) (w : World) : Prop where
  ids : w.rowIs B 9 5 (fun j => .string (idOf j))
  mks : w.rowIs (B + 1) 37 m (fun j => .int .i64 (mk j))
  pos : Look (B + 2) k w
  col : w.rowIs (B + 2 + 1) 3 n (fun j => .int .i64 (if j < k then 2 * (j : Int) + 1 else 0))
  ins : w.rowIs (B + 2 + 1 + 1) 24 n (fun j => if j < k then .slice (ia j) (il j).length (ic j) else .slice none 0 0)
  uns : w.rowIs (B + 2 + 1 + 1 + 1) 3 2 (fun e => .int .i64 (cntU e il (fun _ => false) k))
  inr : ∀ j, j < k → il j = [] ∨ ∃ b, ia j = some ⟨b, 0, none⟩ ∧ B + 6 ≤ b ∧ b < w.heap.size ∧ ∀ l, l < (il j).length → w.cell? ⟨b, l, none⟩ = some (.int .i64 ((il j).getD l 0))
  sz : B + 6 ≤ w.heap.size

structure Mid (B n m : Nat) (mk : Nat → Int) (k : Nat) (ia : Nat → Option Addr) (ic : Nat → Nat) (il : Nat → List Nat) (base : Nat) (v : Value) (li : List Nat) (uc : Nat → Int) (w : World) : Prop where
  ids : w.rowIs B 9 5 (fun j => .string (idOf j))
  mks : w.rowIs (B + 1) 37 m (fun j => .int .i64 (mk j))
  pos : Look (B + 2) (k + 1) w
  col : w.rowIs (B + 2 + 1) 3 n (fun j => .int .i64 (if j < k + 1 then 2 * (j : Int) + 1 else 0))
  ins : w.rowIs (B + 2 + 1 + 1) 24 n (fun j => if j < k then .slice (ia j) (il j).length (ic j) else if j = k then v else .slice none 0 0)
  uns : w.rowIs (B + 2 + 1 + 1 + 1) 3 2 (fun e => .int .i64 (uc e))
  inr : ∀ j, j < k → il j = [] ∨ ∃ b, ia j = some ⟨b, 0, none⟩ ∧ B + 6 ≤ b ∧ b < base ∧ ∀ l, l < (il j).length → w.cell? ⟨b, l, none⟩ = some (.int .i64 ((il j).getD l 0))
  own : w.ownsRow base 3 1 v li.length (li.map cellOf)
  sz : B + 6 ≤ base
  sb : base ≤ w.heap.size

section
variable {B n m : Nat} {mk : Nat → Int} {k : Nat} {ia : Nat → Option Addr} {ic : Nat → Nat} {il : Nat → List Nat} {base : Nat} {v : Value} {li : List Nat} {uc : Nat → Int} {w : World}

theorem grown_row {w w' : World} {row : Option Nat} {b : Nat} {t : TypeId} {n : Nat} {f : Nat → Value} (h : w.rowIs b t n f) (hg : w.grownBy w' row) (hne : some b ≠ row) : w'.rowIs b t n f := h.of_block (hg.block b h.lt hne)
theorem grown_cell {w w' : World} {row : Option Nat} {a : Addr} {v : Value} (h : w.cell? a = some v) (hg : w.grownBy w' row) (hne : some a.block ≠ row) : w'.cell? a = some v := (World.cell?_of_block (w := w) (hg.block _ (lt_of_cell h) hne)).trans h

/-- Behind 'position[ids[k]] = k' and 'column[k] = 2*k + 1'. -/
theorem Set2.mid (h : Set2 B n m mk k ia ic il w) {w1 : World} (hp : Look (B + 2) (k + 1) w1) (hg : w.grownBy w1 (some (B + 2))) :
    Mid B n m mk k ia ic il w.heap.size (.slice none 0 0) [] (fun e => cntU e il (fun _ => false) k) (w1.setCell ⟨B + 2 + 1, k, none⟩ (.int .i64 (2 * (k : Int) + 1))) := by
  have sz := h.sz
  have o := only_set w1 (B + 2 + 1) k (.int .i64 (2 * (k : Int) + 1))
  have gs := hg.size
  refine ⟨o.row (by omega) (grown_row h.ids hg (by simp)), o.row (by omega) (grown_row h.mks hg (by simp)), hp.of_block (o.block _ (by omega)), ?_, o.row (by omega) ((grown_row h.ins hg (by simp)).congr fun j _ => ?_), o.row (by omega) (grown_row h.uns hg (by simp; omega)), ?_, World.ownsRow_nil _ _ _ _, sz, by rw [o.size]; exact gs⟩
  · refine ((grown_row h.col hg (by simp)).set k _).congr fun j _ => ?_
    by_cases e : j = k
    · subst e; simp
    · by_cases hj : j < k
      · simp [e, hj, Nat.lt_succ_of_lt hj]
      · simp [e, hj, show ¬ j < k + 1 by omega]
  · by_cases hj : j < k
    · simp [hj]
    · simp [hj]
  · intro j hj
    rcases h.inr j hj with h0 | ⟨b, h1, h2, h3, h4⟩
    · exact .inl h0
    · exact .inr ⟨b, h1, h2, h3, fun l hl => (o.cell (a := ⟨b, l, none⟩) (by show b ≠ B + 2 + 1; omega)).trans (grown_cell (h4 l hl) hg (by simp; omega))⟩

/-- A new block. -/
theorem Mid.alloc (h : Mid B n m mk k ia ic il base v li uc w) (ob : Obj) : Mid B n m mk k ia ic il base v li uc (w.alloc ob) := by
  have b1 := (Below.refl w.heap.size w).alloc (Nat.le_refl _) ob
  exact ⟨h.ids.alloc _, h.mks.alloc _, h.pos.of_block (b1.block _ (by have := h.sz; have := h.sb; omega)), h.col.alloc _, h.ins.alloc _, h.uns.alloc _, fun j hj => by
    rcases h.inr j hj with h0 | ⟨c, h1, h2, h3, h4⟩
    · exact .inl h0
    · exact .inr ⟨c, h1, h2, h3, fun l hl => (b1.cell (p := ⟨c, l, none⟩) (lt_of_cell (h4 l hl))).trans (h4 l hl)⟩, h.own.alloc _, h.sz, by have := h.sb; simp; omega⟩

/-- Behind 'in[k] = append(in[k], e)'. -/
theorem Mid.append (h : Mid B n m mk k ia ic il base v li uc w) {e : Nat} {v' : Value} {w1 : World} (hg : w.grownBy w1 v.ownBlock) (ho : w1.ownsRow base 3 1 v' (li.length + 1) (li.map cellOf ++ [cellOf e])) :
    Mid B n m mk k ia ic il base v' (li ++ [e]) uc (w1.setCell ⟨B + 2 + 1 + 1, k, none⟩ v') := by
  have sz := h.sz
  have sb := h.sb
  have lo := h.own.lt
  have o := only_set w1 (B + 2 + 1 + 1) k v'
  have ne : ∀ b, b < base → some b ≠ v.ownBlock := fun b hb e => by have := (lo b e.symm).1; omega
  refine ⟨o.row (by omega) (grown_row h.ids hg (ne _ (by omega))), o.row (by omega) (grown_row h.mks hg (ne _ (by omega))), (h.pos.of_block (hg.block _ (by omega) (ne _ (by omega)))).of_block (o.block _ (by omega)), o.row (by omega) (grown_row h.col hg (ne _ (by omega))),
    ((grown_row h.ins hg (ne _ (by omega))).set k v').congr fun j _ => ?_, o.row (by omega) (grown_row h.uns hg (ne _ (by omega))), ?_, ?_, sz, by rw [o.size]; exact Nat.le_trans sb hg.size⟩
  · by_cases e : j = k
    · subst e; simp
    · simp [e]
  · intro j hj
    rcases h.inr j hj with h0 | ⟨b, h1, h2, h3, h4⟩
    · exact .inl h0
    · exact .inr ⟨b, h1, h2, h3, fun l hl => (o.cell (a := ⟨b, l, none⟩) (by show b ≠ B + 2 + 1 + 1; omega)).trans (grown_cell (h4 l hl) hg (ne _ h3))⟩
  · have := ownsRow_setCell_below ho (a := ⟨B + 2 + 1 + 1, k, none⟩) (by show B + 2 + 1 + 1 < base; omega) v'
    simpa using this

/-- Behind 'untraded[e]++'. -/
theorem Mid.count (h : Mid B n m mk k ia ic il base v li uc w) (e : Nat) (d : Int) : Mid B n m mk k ia ic il base v li (upd uc e d) (w.setCell ⟨B + 2 + 1 + 1 + 1, e, none⟩ (.int .i64 d)) := by
  have sz := h.sz
  have sb := h.sb
  have o := only_set w (B + 2 + 1 + 1 + 1) e (.int .i64 d)
  refine ⟨o.row (by omega) h.ids, o.row (by omega) h.mks, h.pos.of_block (o.block _ (by omega)), o.row (by omega) h.col, o.row (by omega) h.ins, (h.uns.set e _).congr fun j _ => ?_, ?_, ownsRow_setCell_below h.own (a := ⟨B + 2 + 1 + 1 + 1, e, none⟩) (by show B + 2 + 1 + 1 + 1 < base; omega) _, sz, by rw [o.size]; exact sb⟩
  · simp only [upd]; split <;> rfl
  · intro j hj
    rcases h.inr j hj with h0 | ⟨b, h1, h2, h3, h4⟩
    · exact .inl h0
    · exact .inr ⟨b, h1, h2, h3, fun l hl => (o.cell (a := ⟨b, l, none⟩) (by show b ≠ B + 2 + 1 + 1 + 1; omega)).trans (h4 l hl)⟩

theorem Mid.shape (h : Mid B n m mk k ia ic il base v li uc w) : ∃ a c, v = .slice a li.length c := by
  rcases h.own.2 with ⟨e, e2⟩ | ⟨g, cap, cur, e, _⟩
  · exact ⟨_, _, by rw [e, e2]⟩
  · exact ⟨_, _, e⟩

/-- The round's end. -/
theorem Mid.done (h : Mid B n m mk k ia ic il base v (il k) uc w) (hu : ∀ e, e < 2 → uc e = cntU e il (fun _ => false) (k + 1)) : ∃ ia' ic', Set2 B n m mk (k + 1) ia' ic' il w := by
  obtain ⟨a, c, rfl⟩ := h.shape
  refine ⟨upd ia k a, upd ic k c, h.ids, h.mks, h.pos, h.col, h.ins.congr fun j _ => ?_, h.uns.congr fun e he => by rw [hu e he], ?_, Nat.le_trans h.sz h.sb⟩
  · by_cases e : j = k
    · subst e; simp [upd]
    · by_cases hj : j < k
      · simp [e, hj, Nat.lt_succ_of_lt hj, upd]
      · simp [e, hj, show ¬ j < k + 1 by omega]
  · intro j hj
    by_cases e : j = k
    · subst e
      rcases h.own.2 with ⟨e1, e2⟩ | ⟨g, cap, cur, e1, hb, _⟩
      · exact .inl (List.eq_nil_of_length_eq_zero e2)
      · simp at e1
        obtain ⟨rfl, rfl⟩ := e1
        refine .inr ⟨g, by simp [upd], Nat.le_trans h.sz hb, (h.own.lt g rfl).2, fun l hl => ?_⟩
        have := h.own.cellAt l (by omega)
        rw [this]
        simp [hl, cellOf, List.getD]
    · rcases h.inr j (by omega) with h0 | ⟨b, h1, h2, h3, h4⟩
      · exact .inl h0
      · exact .inr ⟨b, by simp [upd, e, h1], h2, Nat.lt_of_lt_of_le h3 h.sb, h4⟩
end
end Go.Proofs.Ybulkbhtk
