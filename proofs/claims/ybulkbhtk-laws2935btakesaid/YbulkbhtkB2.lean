import Derived.Test.YbulkbhtkB1
import Derived.Maps.OwnSet
namespace Go.Proofs.Ybulkbhtk
open Go.RowKit Go.Maps

/-! ### The names, and the map from a name to its place -/
def idOf : Nat → ByteArray
  | 0 => ⟨#[97]⟩
  | 1 => ⟨#[98]⟩
  | 2 => ⟨#[99]⟩
  | 3 => ⟨#[100]⟩
  | _ => ⟨#[122, 122]⟩
def idLit (j : Nat) : Lit := .string (idOf j).data.toList
def posD : Nat → DataW Unit
  | 0 => .map []
  | k + 1 => (posD k).put (idLit k) (.lit (.int .i64 k))
def Look (Q n : Nat) (w : World) : Prop := w.ownsMap Yba.prog 9 (plainElem (H := Unit) Yba.prog 3) Q n (posD n)

theorem law9 : Keyed Yba.prog 9 := string_keyed Yba.underlying9
theorem zero3 (w : World) : (zeroValue 3).run Yba.prog w = .ok (.int .i64 0) w := by kernel_rfl
theorem idOf_size (j : Nat) : (idOf j).size ≤ maxLen := by
  match j with
  | 0 => decide
  | 1 => decide
  | 2 => decide
  | 3 => decide
  | _ + 4 => show (2 : Nat) ≤ maxLen; decide
theorem posD_has (n j : Nat) (hn : n ≤ 4) (hj : j < 5) : Maps.has (posD n) (idLit j) = decide (j < n) := by
  match n, j, hn, hj with
  | 0, 0, _, _ => decide +kernel
  | 0, 1, _, _ => decide +kernel
  | 0, 2, _, _ => decide +kernel
  | 0, 3, _, _ => decide +kernel
  | 0, 4, _, _ => decide +kernel
  | 1, 0, _, _ => decide +kernel
  | 1, 1, _, _ => decide +kernel
  | 1, 2, _, _ => decide +kernel
  | 1, 3, _, _ => decide +kernel
  | 1, 4, _, _ => decide +kernel
  | 2, 0, _, _ => decide +kernel
  | 2, 1, _, _ => decide +kernel
  | 2, 2, _, _ => decide +kernel
  | 2, 3, _, _ => decide +kernel
  | 2, 4, _, _ => decide +kernel
  | 3, 0, _, _ => decide +kernel
  | 3, 1, _, _ => decide +kernel
  | 3, 2, _, _ => decide +kernel
  | 3, 3, _, _ => decide +kernel
  | 3, 4, _, _ => decide +kernel
  | 4, 0, _, _ => decide +kernel
  | 4, 1, _, _ => decide +kernel
  | 4, 2, _, _ => decide +kernel
  | 4, 3, _, _ => decide +kernel
  | 4, 4, _, _ => decide +kernel
theorem posD_at (n j : Nat) (hn : n ≤ 4) (hj : j < n) : (posD n).atKey (idLit j) (.lit (.int .i64 0)) = .lit (.int .i64 j) := by
  match n, j, hn, hj with
  | 1, 0, _, _ => rfl
  | 2, 0, _, _ => rfl
  | 2, 1, _, _ => rfl
  | 3, 0, _, _ => rfl
  | 3, 1, _, _ => rfl
  | 3, 2, _, _ => rfl
  | 4, 0, _, _ => rfl
  | 4, 1, _, _ => rfl
  | 4, 2, _, _ => rfl
  | 4, 3, _, _ => rfl

theorem posD_miss (n j : Nat) (hn : n ≤ j) (hj : j < 5) (zd : DataW Unit) : (posD n).atKey (idLit j) zd = zd := by
  have key : ∀ d k, d + k < 5 → (posD d).atKey (idLit (d + k)) zd = zd := by
    intro d k h
    match d, k, h with
    | 0, 0, _ => rfl
    | 0, 1, _ => rfl
    | 0, 2, _ => rfl
    | 0, 3, _ => rfl
    | 0, 4, _ => rfl
    | 1, 0, _ => rfl
    | 1, 1, _ => rfl
    | 1, 2, _ => rfl
    | 1, 3, _ => rfl
    | 2, 0, _ => rfl
    | 2, 1, _ => rfl
    | 2, 2, _ => rfl
    | 3, 0, _ => rfl
    | 3, 1, _ => rfl
    | 4, 0, _ => rfl
    | 0, k + 5, h => omega
    | 1, k + 4, h => omega
    | 2, k + 3, h => omega
    | 3, k + 2, h => omega
    | 4, k + 1, h => omega
    | d + 5, _, h => omega
  have := key n (j - n) (by omega)
  rwa [show n + (j - n) = j by omega] at this

/-- 'k, ok := s.position[ids[j]]'. -/
theorem Look.hit {Q n : Nat} {w : World} (h : Look Q n w) (hn : n ≤ 4) {j : Nat} (hjn : j < n) :
    (Instr.lookup 38 (.map (some Q)) (.string (idOf j)) true).run Yba.prog w = .ok (.tuple #[.int .i64 j, .bool true]) w := by
  obtain ⟨v, ps, hrun, hv⟩ := World.ownsMap.look_ok h law9 Yba.underlying38 (zero3 w) (plainElem_int Yba.underlying3 (by decide)) (Go.WideMaps.keyOf_string_mk Yba.underlying9 (idOf_size j))
  obtain ⟨c, rfl, hc, _⟩ := plainElem_int_inv Yba.underlying3 hv
  have e : (.string (idOf j).data.toList : Lit) = idLit j := rfl
  rw [e, posD_has n j hn (by omega), decide_eq_true hjn] at hrun
  simp only [Prod.mk.injEq] at hc
  have h1 := hc.1
  rw [e, posD_at n j hn hjn] at h1
  simp at h1
  rw [h1]; exact hrun
theorem Look.miss {Q n : Nat} {w : World} (h : Look Q n w) (hn : n ≤ 4) {j : Nat} (hnj : n ≤ j) (hj : j < 5) :
    (Instr.lookup 38 (.map (some Q)) (.string (idOf j)) true).run Yba.prog w = .ok (.tuple #[.int .i64 0, .bool false]) w := by
  obtain ⟨v, ps, hrun, hv⟩ := World.ownsMap.look_ok h law9 Yba.underlying38 (zero3 w) (plainElem_int Yba.underlying3 (by decide)) (Go.WideMaps.keyOf_string_mk Yba.underlying9 (idOf_size j))
  obtain ⟨c, rfl, hc, _⟩ := plainElem_int_inv Yba.underlying3 hv
  have e : (.string (idOf j).data.toList : Lit) = idLit j := rfl
  rw [e, posD_has n j hn hj, decide_eq_false (by omega)] at hrun
  simp only [Prod.mk.injEq] at hc
  have h1 := hc.1
  rw [e, posD_miss n j hnj hj] at h1
  simp at h1
  rw [h1]; exact hrun

theorem Look.of_block {Q n : Nat} {w w' : World} (h : Look Q n w) (e : w'.heap[Q]? = w.heap[Q]?) : Look Q n w' := by
  obtain ⟨es, c, hb, r⟩ := h
  exact ⟨es, c, e.trans hb, r⟩

/-! ### The session in memory -/
structure Ids where
  S : Nat
  M : Nat
  P : Nat
  Q : Nat
  C : Nat
  H : Nat
  A : Nat
  I : Nat
  U : Nat
  L : Nat

structure St where
  ht : Nat → Bool
  ta : Nat → Int
  pr : Nat → Nat
  un : Nat → Int
  lt : Nat → Option Nat
  kt : Nat → Nat → Int
  kp : Nat → Nat → Nat
  ks : Nat → Nat → Bool

def keptCell (s : St) (p c : Nat) : Value := if c % 3 = 0 then .int .i64 (s.kt p (c / 3)) else if c % 3 = 1 then .float .f64 (s.kp p (c / 3)) else .bool (s.ks p (c / 3))
def latVal (n : Nat) : Option Nat → Value
  | none => .slice none 0 0
  | some g => .slice (some ⟨g, 0, none⟩) n n

/-- What no trade turns. -/
structure Fix (x : Ids) (N n m : Nat) (mk : Nat → Int) (pub : Nat) (ia : Nat → Option Addr) (ic : Nat → Nat) (il : Nat → List Nat) (w : World) : Prop where
  s4 : w.cell? ⟨x.S, 4, none⟩ = some (.slice (some ⟨x.M, 0, none⟩) m m)
  s5 : w.cell? ⟨x.S, 5, none⟩ = some (.int .i64 pub)
  s6 : w.cell? ⟨x.S, 6, none⟩ = some (.slice (some ⟨x.P, 0, none⟩) (2 * n + 1) (2 * n + 1))
  s7 : w.cell? ⟨x.S, 7, none⟩ = some (.map (some x.Q))
  s8 : w.cell? ⟨x.S, 8, none⟩ = some (.slice (some ⟨x.C, 0, none⟩) n n)
  s9 : w.cell? ⟨x.S, 9, none⟩ = some (.slice (some ⟨x.H, 0, none⟩) n n)
  s10 : w.cell? ⟨x.S, 10, none⟩ = some (.slice (some ⟨x.A, 0, none⟩) n n)
  s11 : w.cell? ⟨x.S, 11, none⟩ = some (.slice (some ⟨x.I, 0, none⟩) n n)
  s13 : w.cell? ⟨x.S, 13, none⟩ = some (.slice (some ⟨x.U, 0, none⟩) 2 2)
  s14 : w.cell? ⟨x.S, 14, none⟩ = some (.slice (some ⟨x.L, 0, none⟩) m m)
  mks : w.rowIs x.M 37 m (fun i => .int .i64 (mk i))
  pos : Look x.Q n w
  col : w.rowIs x.C 3 n (fun k => .int .i64 (2 * k + 1))
  ins : w.rowIs x.I 24 n (fun k => .slice (ia k) (il k).length (ic k))
  inr : ∀ k, k < n → il k = [] ∨ ∃ b, ia k = some ⟨b, 0, none⟩ ∧ b < N ∧ b ≠ x.P ∧ b ≠ x.H ∧ b ≠ x.A ∧ b ≠ x.U ∧ b ≠ x.L ∧ ∀ l, l < (il k).length → w.cell? ⟨b, l, none⟩ = some (.int .i64 ((il k).getD l 0))
  i2 : ∀ k, k < n → (il k).length ≤ 2 ∧ ∀ e ∈ il k, e < 2
  nd : [x.S, x.M, x.P, x.Q, x.C, x.H, x.A, x.I, x.U, x.L].Nodup
  lt : ∀ b ∈ [x.S, x.M, x.P, x.Q, x.C, x.H, x.A, x.I, x.U, x.L], b < N
  nn : 1 ≤ n ∧ n ≤ 4
  mm : m ≤ 1025
  hp : pub < m
  inc : ∀ i j, i < j → j < m → mk i < mk j
  sz : N ≤ w.heap.size

/-- What trades turn. -/
structure Var (x : Ids) (N n m : Nat) (s : St) (w : World) : Prop where
  prs : w.rowIs x.P 31 (2 * n + 1) (fun i => .float .f64 (s.pr i))
  hts : w.rowIs x.H 4 n (fun k => .bool (s.ht k))
  ats : w.rowIs x.A 37 n (fun k => .int .i64 (s.ta k))
  uns : w.rowIs x.U 3 2 (fun i => .int .i64 (s.un i))
  lts : w.rowIs x.L 57 m (fun p => latVal n (s.lt p))
  kb : ∀ p, p < m → ∀ g, s.lt p = some g → N ≤ g ∧ w.rowIs g 59 (n * 3) (keptCell s p)
  ki : ∀ p p' g, p < m → p' < m → s.lt p = some g → s.lt p' = some g → p = p'

theorem Fix.only {x : Ids} {N n m : Nat} {mk : Nat → Int} {pub : Nat} {ia : Nat → Option Addr} {ic : Nat → Nat} {il : Nat → List Nat} {w w' : World} {b0 : Nat} (h : Fix x N n m mk pub ia ic il w) (o : Only b0 w w')
    (hb : b0 = x.P ∨ b0 = x.H ∨ b0 = x.A ∨ b0 = x.U ∨ b0 = x.L ∨ N ≤ b0) : Fix x N n m mk pub ia ic il w' := by
  have nd := h.nd
  have lt := h.lt
  simp only [List.mem_cons, List.not_mem_nil, or_false, forall_eq_or_imp, forall_eq] at lt
  obtain ⟨l1, l2, l3, l4, l5, l6, l7, l8, l9, l10⟩ := lt
  simp only [List.nodup_cons, List.mem_cons, List.not_mem_nil, or_false, not_or] at nd
  obtain ⟨⟨a1, a2, a3, a4, a5, a6, a7, a8, a9⟩, ⟨b1, b2, b3, b4, b5, b6, b7, b8⟩, ⟨c1, c2, c3, c4, c5, c6, c7⟩, ⟨d1, d2, d3, d4, d5, d6⟩, ⟨e1, e2, e3, e4, e5⟩, ⟨f1, f2, f3, f4⟩, ⟨g1, g2, g3⟩, ⟨h1, h2⟩, i1, _⟩ := nd
  have eS : x.S ≠ b0 := by
    rcases hb with rfl | rfl | rfl | rfl | rfl | hb
    · exact a2
    · exact a5
    · exact a6
    · exact a8
    · exact a9
    · exact Nat.ne_of_lt (Nat.lt_of_lt_of_le l1 hb)
  have eM : x.M ≠ b0 := by
    rcases hb with rfl | rfl | rfl | rfl | rfl | hb
    · exact b1
    · exact b4
    · exact b5
    · exact b7
    · exact b8
    · exact Nat.ne_of_lt (Nat.lt_of_lt_of_le l2 hb)
  have eQ : x.Q ≠ b0 := by
    rcases hb with rfl | rfl | rfl | rfl | rfl | hb
    · exact fun e => c1 e.symm
    · exact d2
    · exact d3
    · exact d5
    · exact d6
    · exact Nat.ne_of_lt (Nat.lt_of_lt_of_le l4 hb)
  have eC : x.C ≠ b0 := by
    rcases hb with rfl | rfl | rfl | rfl | rfl | hb
    · exact fun e => c2 e.symm
    · exact e1
    · exact e2
    · exact e4
    · exact e5
    · exact Nat.ne_of_lt (Nat.lt_of_lt_of_le l5 hb)
  have eI : x.I ≠ b0 := by
    rcases hb with rfl | rfl | rfl | rfl | rfl | hb
    · exact fun e => c5 e.symm
    · exact fun e => f2 e.symm
    · exact fun e => g1 e.symm
    · exact h1
    · exact h2
    · exact Nat.ne_of_lt (Nat.lt_of_lt_of_le l8 hb)
  have c : ∀ i, w'.cell? ⟨x.S, i, none⟩ = w.cell? ⟨x.S, i, none⟩ := fun i => o.cell (a := ⟨x.S, i, none⟩) eS
  exact ⟨(c _).trans h.s4, (c _).trans h.s5, (c _).trans h.s6, (c _).trans h.s7, (c _).trans h.s8, (c _).trans h.s9, (c _).trans h.s10, (c _).trans h.s11, (c _).trans h.s13, (c _).trans h.s14,
    o.row eM h.mks, h.pos.of_block (o.block _ eQ), o.row eC h.col, o.row eI h.ins, fun k hk => by
      rcases h.inr k hk with h0 | ⟨b, h1, h2, h3, h4, h5, h6, h7, h8⟩
      · exact .inl h0
      · exact .inr ⟨b, h1, h2, h3, h4, h5, h6, h7, fun l hl => (o.cell (a := ⟨b, l, none⟩) (by show b ≠ b0; rcases hb with rfl | rfl | rfl | rfl | rfl | hb <;> first | assumption | exact Nat.ne_of_lt (Nat.lt_of_lt_of_le h2 hb))).trans (h8 l hl)⟩,
    h.i2, h.nd, h.lt, h.nn, h.mm, h.hp, h.inc, by rw [o.size]; exact h.sz⟩

theorem Fix.below {x : Ids} {N n m : Nat} {mk : Nat → Int} {pub : Nat} {ia : Nat → Option Addr} {ic : Nat → Nat} {il : Nat → List Nat} {w w' : World} {B : Nat} (h : Fix x N n m mk pub ia ic il w) (o : Below B w w') (hB : N ≤ B) : Fix x N n m mk pub ia ic il w' := by
  have lt := h.lt
  simp at lt
  have c : ∀ i, w'.cell? ⟨x.S, i, none⟩ = w.cell? ⟨x.S, i, none⟩ := fun i => o.cell (p := ⟨x.S, i, none⟩) (by show x.S < B; omega)
  exact ⟨(c _).trans h.s4, (c _).trans h.s5, (c _).trans h.s6, (c _).trans h.s7, (c _).trans h.s8, (c _).trans h.s9, (c _).trans h.s10, (c _).trans h.s11, (c _).trans h.s13, (c _).trans h.s14,
    h.mks.of_block (o.block _ (by omega)), h.pos.of_block (o.block _ (by omega)), h.col.of_block (o.block _ (by omega)), h.ins.of_block (o.block _ (by omega)), fun k hk => by
      rcases h.inr k hk with h0 | ⟨b, h1, h2, h3, h4, h5, h6, h7, h8⟩
      · exact .inl h0
      · exact .inr ⟨b, h1, h2, h3, h4, h5, h6, h7, fun l hl => (o.cell (p := ⟨b, l, none⟩) (by show b < B; omega)).trans (h8 l hl)⟩,
    h.i2, h.nd, h.lt, h.nn, h.mm, h.hp, h.inc, Nat.le_trans h.sz o.size⟩

/-- New blocks, draws: nothing of the session turns. -/
theorem Var.below {x : Ids} {N n m : Nat} {s : St} {w w' : World} (h : Var x N n m s w) (o : Below w.heap.size w w') : Var x N n m s w' := by
  exact ⟨h.prs.of_block (o.block _ h.prs.lt), h.hts.of_block (o.block _ h.hts.lt), h.ats.of_block (o.block _ h.ats.lt), h.uns.of_block (o.block _ h.uns.lt), h.lts.of_block (o.block _ h.lts.lt),
    fun p hp g hg => ⟨(h.kb p hp g hg).1, (h.kb p hp g hg).2.of_block (o.block _ (h.kb p hp g hg).2.lt)⟩, h.ki⟩

theorem rowIs_ne {w : World} {b b' : Nat} {t t' : TypeId} {n n' : Nat} {f f' : Nat → Value} (h : w.rowIs b t n f) (h' : w.rowIs b' t' n' f') (ht : t ≠ t') : b ≠ b' := by
  rintro rfl
  obtain ⟨c, hb, _⟩ := h
  obtain ⟨c', hb', _⟩ := h'
  rw [hb] at hb'
  simp at hb'
  exact ht hb'.2

def upd {α : Type} (f : Nat → α) (k : Nat) (v : α) : Nat → α := fun j => if j = k then v else f j

theorem only_set (w : World) (b o : Nat) (v : Value) : Only b w (w.setCell ⟨b, o, none⟩ v) := (Only.refl b w).setCell o v

section
variable {x : Ids} {N n m : Nat} {s : St} {w : World}

theorem Var.setH (h : Var x N n m s w) (k : Nat) (v : Bool) : Var x N n m { s with ht := upd s.ht k v } (w.setCell ⟨x.H, k, none⟩ (.bool v)) := by
  have o := only_set w x.H k (.bool v)
  refine ⟨o.row (rowIs_ne h.prs h.hts (by decide)) h.prs, (h.hts.set k _).congr fun j _ => ?_, o.row (rowIs_ne h.ats h.hts (by decide)) h.ats, o.row (rowIs_ne h.uns h.hts (by decide)) h.uns, o.row (rowIs_ne h.lts h.hts (by decide)) h.lts,
    fun p hp g hg => ⟨(h.kb p hp g hg).1, o.row (rowIs_ne (h.kb p hp g hg).2 h.hts (by decide)) (h.kb p hp g hg).2⟩, h.ki⟩
  simp only [upd]; split <;> rfl

theorem Var.setA (h : Var x N n m s w) (k : Nat) (v : Int) : Var x N n m { s with ta := upd s.ta k v } (w.setCell ⟨x.A, k, none⟩ (.int .i64 v)) := by
  have o := only_set w x.A k (.int .i64 v)
  refine ⟨o.row (rowIs_ne h.prs h.ats (by decide)) h.prs, o.row (rowIs_ne h.hts h.ats (by decide)) h.hts, (h.ats.set k _).congr fun j _ => ?_, o.row (rowIs_ne h.uns h.ats (by decide)) h.uns, o.row (rowIs_ne h.lts h.ats (by decide)) h.lts,
    fun p hp g hg => ⟨(h.kb p hp g hg).1, o.row (rowIs_ne (h.kb p hp g hg).2 h.ats (by decide)) (h.kb p hp g hg).2⟩, h.ki⟩
  simp only [upd]; split <;> rfl

theorem Var.setU (h : Var x N n m s w) (k : Nat) (v : Int) : Var x N n m { s with un := upd s.un k v } (w.setCell ⟨x.U, k, none⟩ (.int .i64 v)) := by
  have o := only_set w x.U k (.int .i64 v)
  refine ⟨o.row (rowIs_ne h.prs h.uns (by decide)) h.prs, o.row (rowIs_ne h.hts h.uns (by decide)) h.hts, o.row (rowIs_ne h.ats h.uns (by decide)) h.ats, (h.uns.set k _).congr fun j _ => ?_, o.row (rowIs_ne h.lts h.uns (by decide)) h.lts,
    fun p hp g hg => ⟨(h.kb p hp g hg).1, o.row (rowIs_ne (h.kb p hp g hg).2 h.uns (by decide)) (h.kb p hp g hg).2⟩, h.ki⟩
  simp only [upd]; split <;> rfl

theorem Var.setP (h : Var x N n m s w) (k : Nat) (v : Nat) : Var x N n m { s with pr := upd s.pr k v } (w.setCell ⟨x.P, k, none⟩ (.float .f64 v)) := by
  have o := only_set w x.P k (.float .f64 v)
  refine ⟨(h.prs.set k _).congr fun j _ => ?_, o.row (rowIs_ne h.hts h.prs (by decide)) h.hts, o.row (rowIs_ne h.ats h.prs (by decide)) h.ats, o.row (rowIs_ne h.uns h.prs (by decide)) h.uns, o.row (rowIs_ne h.lts h.prs (by decide)) h.lts,
    fun p hp g hg => ⟨(h.kb p hp g hg).1, o.row (rowIs_ne (h.kb p hp g hg).2 h.prs (by decide)) (h.kb p hp g hg).2⟩, h.ki⟩
  simp only [upd]; split <;> rfl

/-- A new row of kept trades, laid into later[q]. -/
theorem Var.setL (h : Var x N n m s w) {q g : Nat} (hq : q < m) (hnone : s.lt q = none) (hN : N ≤ g) (hnew : ∀ p, p < m → s.lt p ≠ some g) (hrow : w.rowIs g 59 (n * 3) (keptCell s q)) :
    Var x N n m { s with lt := upd s.lt q (some g) } (w.setCell ⟨x.L, q, none⟩ (.slice (some ⟨g, 0, none⟩) n n)) := by
  have o := only_set w x.L q (.slice (some ⟨g, 0, none⟩) n n)
  refine ⟨o.row (rowIs_ne h.prs h.lts (by decide)) h.prs, o.row (rowIs_ne h.hts h.lts (by decide)) h.hts, o.row (rowIs_ne h.ats h.lts (by decide)) h.ats, o.row (rowIs_ne h.uns h.lts (by decide)) h.uns, (h.lts.set q _).congr fun j _ => ?_, ?_, ?_⟩
  · simp only [upd]; split <;> rfl
  · intro p hp g' hg'
    simp only [upd] at hg'
    split at hg'
    · rename_i e
      subst e
      simp at hg'
      subst hg'
      exact ⟨hN, o.row (rowIs_ne hrow h.lts (by decide)) hrow⟩
    · exact ⟨(h.kb p hp g' hg').1, o.row (rowIs_ne (h.kb p hp g' hg').2 h.lts (by decide)) (h.kb p hp g' hg').2⟩
  · intro p p' g' hp hp' hg hg'
    simp only [upd] at hg hg'
    split at hg
    · split at hg'
      · omega
      · simp at hg
        subst hg
        exact absurd hg' (hnew p' hp')
    · split at hg'
      · simp at hg'
        subst hg'
        exact absurd hg (hnew p hp)
      · exact h.ki p p' g' hp hp' hg hg'

end
end Go.Proofs.Ybulkbhtk
