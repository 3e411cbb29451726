import Derived.Test.YbulkbhtkB7
namespace Go.Proofs.Ybulkbhtk
open Go.RowKit

theorem own_shape {w : World} {base : Nat} {e : TypeId} {size : Nat} {v : Value} {n : Nat} {xs : List Value} (h : w.ownsRow base e size v n xs) : ∃ a c, v = .slice a n c := by
  rcases h.2 with ⟨h1, h2⟩ | ⟨g, cap, cur, h1, _⟩
  · exact ⟨_, _, by rw [h1, h2]⟩
  · exact ⟨_, _, h1⟩
def b0 (mask : Int) (k : Nat) : Bool := (bits BinOp.and IntKind.u8 (mask / 2 ^ k) 1 == 1)
def b1 (mask : Int) (k : Nat) : Bool := (bits BinOp.and IntKind.u8 (mask / 2 ^ (k + 4)) 1 == 1)
def l0 (mask : Int) (k : Nat) : List Nat := if b0 mask k = true then [0] else []
def l1 (mask : Int) (k : Nat) : List Nat := if b1 mask k = true then [1] else []
def ilOf (mask : Int) (k : Nat) : List Nat := l0 mask k ++ l1 mask k

theorem set2_start (B n m : Nat) (mk : Nat → Int) (il : Nat → List Nat) (w : World) (hz : w.heap.size = B + 2) (h1 : w.rowIs B 9 5 (fun j => .string (idOf j))) (h2 : w.rowIs (B + 1) 37 m (fun j => .int .i64 (mk j))) :
    Set2 B n m mk 0 (fun _ => none) (fun _ => 0) il ((((w.alloc (.map #[] 0)).alloc (.cells (madeCells #[.int .i64 0] n) 3)).alloc (.cells (madeCells #[.slice none 0 0] n) 24)).alloc (.cells (madeCells #[.int .i64 0] 2) 3)) := by
  have e1 : (w.alloc (.map #[] 0)).heap.size = B + 2 + 1 := by simp [hz]
  have e2 : ((w.alloc (.map #[] 0)).alloc (.cells (madeCells #[.int .i64 0] n) 3)).heap.size = B + 2 + 1 + 1 := by simp [hz]
  have e3 : (((w.alloc (.map #[] 0)).alloc (.cells (madeCells #[.int .i64 0] n) 3)).alloc (.cells (madeCells #[.slice none 0 0] n) 24)).heap.size = B + 2 + 1 + 1 + 1 := by simp [hz]
  have p0 : Look (B + 2) 0 (w.alloc (.map #[] 0)) := by rw [← hz]; exact World.ownsMap_made _ _ _ _
  have r1 := World.rowIs_made (w.alloc (.map #[] 0)) (.int .i64 0) n 3
  rw [e1] at r1
  have r2 := World.rowIs_made ((w.alloc (.map #[] 0)).alloc (.cells (madeCells #[.int .i64 0] n) 3)) (.slice none 0 0) n 24
  rw [e2] at r2
  have r3 := World.rowIs_made (((w.alloc (.map #[] 0)).alloc (.cells (madeCells #[.int .i64 0] n) 3)).alloc (.cells (madeCells #[.slice none 0 0] n) 24)) (.int .i64 0) 2 3
  rw [e3] at r3
  refine ⟨(((h1.alloc _).alloc _).alloc _).alloc _, (((h2.alloc _).alloc _).alloc _).alloc _, World.ownsMap.alloc (World.ownsMap.alloc (World.ownsMap.alloc p0 _) _) _, ((r1.alloc _).alloc _).congr fun j _ => by simp, (r2.alloc _).congr fun j _ => by simp, r3.congr fun e _ => by simp [cntU], fun j hj => absurd hj (Nat.not_lt_zero _), by simp [hz]⟩
def prAt (j a : Nat) : Nat := if a < j then 13830554455654793216 else 0
theorem prAt_set {w : World} {g n j : Nat} (h : w.rowIs g 31 n (fun a => .float .f64 (prAt j a))) : (w.setCell ⟨g, j, none⟩ (.float .f64 13830554455654793216)).rowIs g 31 n (fun a => .float .f64 (prAt (j + 1) a)) := by
  refine (h.set j _).congr fun a _ => ?_
  by_cases e : a = j
  · subst e; simp [prAt]
  · by_cases ha : a < j
    · simp [prAt, e, ha, Nat.lt_succ_of_lt ha]
    · simp [prAt, e, ha, show ¬ a < j + 1 by omega]
theorem upd_same (uc : Nat → Int) (d : Int) (e : Nat) : upd uc 0 d e = upd (upd uc 0 d) 1 (uc 1 + (([] : List Nat).length : Int)) e := by
  simp only [upd, List.length_nil]
  by_cases h : e = 1
  · subst h; simp
  · simp [h]
theorem mem_ilOf (mask : Int) (k e : Nat) : e ∈ ilOf mask k ↔ (e = 0 ∧ b0 mask k = true) ∨ (e = 1 ∧ b1 mask k = true) := by
  unfold ilOf l0 l1
  by_cases h0 : b0 mask k = true <;> by_cases h1 : b1 mask k = true <;> simp [h0, h1]
theorem uc_step (mask : Int) (k e : Nat) (he : e < 2) : upd (upd (fun e => cntU e (ilOf mask) (fun _ => false) k) 0 (cntU 0 (ilOf mask) (fun _ => false) k + (l0 mask k).length)) 1 (cntU 1 (ilOf mask) (fun _ => false) k + (l1 mask k).length) e = cntU e (ilOf mask) (fun _ => false) (k + 1) := by
  simp only [cntU, mem_ilOf]
  match e, he with
  | 0, _ => by_cases h0 : b0 mask k = true <;> simp [upd, l0, h0]
  | 1, _ => by_cases h1 : b1 mask k = true <;> simp [upd, l1, h1]

theorem Set2.below {B n m : Nat} {mk : Nat → Int} {k : Nat} {ia : Nat → Option Addr} {ic : Nat → Nat} {il : Nat → List Nat} {w w' : World} (h : Set2 B n m mk k ia ic il w) (o : Below w.heap.size w w') : Set2 B n m mk k ia ic il w' :=
  ⟨h.ids.of_block (o.block _ h.ids.lt), h.mks.of_block (o.block _ h.mks.lt), h.pos.of_block (o.block _ (World.ownsMap.lt h.pos)), h.col.of_block (o.block _ h.col.lt), h.ins.of_block (o.block _ h.ins.lt), h.uns.of_block (o.block _ h.uns.lt), fun j hj => by
    rcases h.inr j hj with h0 | ⟨b, h1, h2, h3, h4⟩
    · exact .inl h0
    · exact .inr ⟨b, h1, h2, Nat.lt_of_lt_of_le h3 o.size, fun l hl => (o.cell (p := ⟨b, l, none⟩) h3).trans (h4 l hl)⟩, Nat.le_trans h.sz o.size⟩

theorem four (w : World) (s : Nat) (hs : w.heap.size = s) (o1 o2 o3 o4 : Obj) :
    ((((w.alloc o1).alloc o2).alloc o3).alloc o4).drew.heap[s]? = some o1 ∧ ((((w.alloc o1).alloc o2).alloc o3).alloc o4).drew.heap[s + 1]? = some o2 ∧ ((((w.alloc o1).alloc o2).alloc o3).alloc o4).drew.heap[s + 1 + 1]? = some o3 ∧
    ((((w.alloc o1).alloc o2).alloc o3).alloc o4).drew.heap[s + 1 + 1 + 1]? = some o4 ∧ ((((w.alloc o1).alloc o2).alloc o3).alloc o4).drew.heap.size = s + 1 + 1 + 1 + 1 ∧ Below w.heap.size w ((((w.alloc o1).alloc o2).alloc o3).alloc o4).drew := by
  subst hs
  have e : ((((w.alloc o1).alloc o2).alloc o3).alloc o4).drew.heap = (((w.heap.push o1).push o2).push o3).push o4 := rfl
  refine ⟨?_, ?_, ?_, ?_, ?_, ((((Below.refl _ _).alloc (Nat.le_refl _) _).alloc (by simp) _).alloc (by simp; omega) _).alloc (by simp; omega) _ |>.drew⟩
  · rw [e]; simp only [Array.getElem?_push, Array.size_push]; rw [if_neg (by omega), if_neg (by omega), if_neg (by omega), if_pos trivial]
  · rw [e]; simp only [Array.getElem?_push, Array.size_push]; rw [if_neg (by omega), if_neg (by omega), if_pos trivial]
  · rw [e]; simp only [Array.getElem?_push, Array.size_push]; rw [if_neg (by omega), if_pos trivial]
  · rw [e]; simp only [Array.getElem?_push, Array.size_push]; rw [if_pos trivial]
  · rw [e]; simp only [Array.size_push]

theorem row_of_made {w : World} {g n : Nat} {z : Value} {t : TypeId} (h : w.heap[g]? = some (.cells (madeCells #[z] n) t)) : w.rowIs g t n (fun _ => z) :=
  ⟨_, h, size_madeCells _ _, fun i hi => by simp [madeCells, hi, Nat.mod_one]⟩

def zeroSt (il : Nat → List Nat) (n : Nat) : St := { ht := fun _ => false, ta := fun _ => 0, pr := fun _ => 13830554455654793216, un := fun e => cntU e il (fun _ => false) n, lt := fun _ => none, kt := fun _ _ => 0, kp := fun _ _ => 0, ks := fun _ _ => false }

/-- The session stands, no tick is taken yet. -/
def Ready (B n m : Nat) (mk : Nat → Int) (pub : Nat) (il : Nat → List Nat) (w : World) (v : Value) (wx : World) : Prop :=
  ∃ (x : Ids) (N : Nat) (ia : Nat → Option Addr) (ic : Nat → Nat), v = .pointer (some ⟨x.S, 0, none⟩) ∧ Fix x N n m mk pub ia ic il wx ∧ Var x N n m (zeroSt il n) wx ∧ Lo B x N ∧ x.M = B + 1 ∧ x.C = B + 2 + 1 ∧ B < N ∧ (B ≠ x.P ∧ B ≠ x.H ∧ B ≠ x.A ∧ B ≠ x.U ∧ B ≠ x.L) ∧ wx.rowIs B 9 5 (fun j => .string (idOf j)) ∧ Below B w wx

theorem sess_start {B n m : Nat} {mk : Nat → Int} {pub : Nat} {il : Nat → List Nat} {ia : Nat → Option Addr} {ic : Nat → Nat} {w wr W : World} {P gH gA gL gS : Nat} {z0 z1 z2 z3 z12 z15 z16 : Value}
    (hS : Set2 B n m mk n ia ic il wr) (hP : wr.rowIs P 31 (2 * n + 1) (fun a => .float .f64 (prAt (2 * n + 1) a))) (hPb : B + 6 ≤ P) (hin : ∀ j, j < n → ∀ b, ia j = some ⟨b, 0, none⟩ → il j ≠ [] → b ≠ P) (hbw : Below wr.heap.size wr W) (hB : Below B w wr)
    (h1 : W.heap[gH]? = some (.cells (madeCells #[.bool false] n) 4)) (h2 : W.heap[gA]? = some (.cells (madeCells #[.int .i64 0] n) 37)) (h3 : W.heap[gL]? = some (.cells (madeCells #[.slice none 0 0] m) 57))
    (h4 : W.heap[gS]? = some (.cells #[z0, z1, z2, z3, .slice (some ⟨B + 1, 0, none⟩) m m, .int .i64 pub, .slice (some ⟨P, 0, none⟩) (2 * n + 1) (2 * n + 1), .map (some (B + 2)), .slice (some ⟨B + 2 + 1, 0, none⟩) n n, .slice (some ⟨gH, 0, none⟩) n n, .slice (some ⟨gA, 0, none⟩) n n,
      .slice (some ⟨B + 2 + 1 + 1, 0, none⟩) n n, z12, .slice (some ⟨B + 2 + 1 + 1 + 1, 0, none⟩) 2 2, .slice (some ⟨gL, 0, none⟩) m m, z15, z16] 48))
    (g1 : wr.heap.size ≤ gH) (g2 : wr.heap.size ≤ gA) (g3 : wr.heap.size ≤ gL) (g4 : wr.heap.size ≤ gS) (nn : 1 ≤ n ∧ n ≤ 4) (mm : m ≤ 1025) (hp : pub < m) (inc : ∀ i j, i < j → j < m → mk i < mk j) (i2 : ∀ k, k < n → (il k).length ≤ 2 ∧ ∀ e ∈ il k, e < 2)
    (q1 : gA ≠ gH) (q2 : gL ≠ gH) (q3 : gS ≠ gH) (q4 : gL ≠ gA) (q5 : gS ≠ gA) (q6 : gS ≠ gL) :
    Ready B n m mk pub il w (.pointer (some ⟨gS, 0, none⟩)) W := by
  have S3 := hS.below hbw
  have lH : gH < W.heap.size := lt_of_block h1
  have lA : gA < W.heap.size := lt_of_block h2
  have lL : gL < W.heap.size := lt_of_block h3
  have lS : gS < W.heap.size := lt_of_block h4
  have lP := hP.lt
  have sz := hS.sz
  have szW := hbw.size
  have cS : ∀ i v, #[z0, z1, z2, z3, .slice (some ⟨B + 1, 0, none⟩) m m, .int .i64 pub, .slice (some ⟨P, 0, none⟩) (2 * n + 1) (2 * n + 1), .map (some (B + 2)), .slice (some ⟨B + 2 + 1, 0, none⟩) n n, .slice (some ⟨gH, 0, none⟩) n n, .slice (some ⟨gA, 0, none⟩) n n,
      .slice (some ⟨B + 2 + 1 + 1, 0, none⟩) n n, z12, .slice (some ⟨B + 2 + 1 + 1 + 1, 0, none⟩) 2 2, .slice (some ⟨gL, 0, none⟩) m m, z15, z16][i]? = some v → W.cell? ⟨gS, i, none⟩ = some v := fun i v hv => by simp only [World.cell?, h4]; exact hv
  refine ⟨⟨gS, B + 1, P, B + 2, B + 2 + 1, gH, gA, B + 2 + 1 + 1, B + 2 + 1 + 1 + 1, gL⟩, W.heap.size, ia, ic, rfl, ?_, ?_, ?_, rfl, rfl, by omega, ?_, S3.ids, hB.trans (hbw.mono (by omega))⟩
  · refine ⟨cS 4 _ rfl, cS 5 _ rfl, cS 6 _ rfl, cS 7 _ rfl, cS 8 _ rfl, cS 9 _ rfl, cS 10 _ rfl, cS 11 _ rfl, cS 13 _ rfl, cS 14 _ rfl, S3.mks, S3.pos, S3.col.congr fun j hj => by simp [hj], S3.ins.congr fun j hj => by simp [hj], fun k hk => ?_, i2, ?_, ?_, nn, mm, hp, inc, Nat.le_refl _⟩
    · rcases hS.inr k hk with h0 | ⟨b, e1, e2, e3, e4⟩
      · exact .inl h0
      · by_cases hne : il k = []
        · exact .inl hne
        · refine .inr ⟨b, e1, by omega, hin k hk b e1 hne, ?_, ?_, ?_, ?_, fun l hl => (hbw.cell (p := ⟨b, l, none⟩) e3).trans (e4 l hl)⟩
          · show b ≠ gH; omega
          · show b ≠ gA; omega
          · show b ≠ B + 2 + 1 + 1 + 1; omega
          · show b ≠ gL; omega
    · simp only [List.nodup_cons, List.mem_cons, List.not_mem_nil, or_false, not_or, List.nodup_nil, and_true, not_false_eq_true]
      refine ⟨⟨?_, ?_, ?_, ?_, ?_, ?_, ?_, ?_, ?_⟩, ⟨?_, ?_, ?_, ?_, ?_, ?_, ?_, ?_⟩, ⟨?_, ?_, ?_, ?_, ?_, ?_, ?_⟩, ⟨?_, ?_, ?_, ?_, ?_, ?_⟩, ⟨?_, ?_, ?_, ?_, ?_⟩, ⟨?_, ?_, ?_, ?_⟩, ⟨?_, ?_, ?_⟩, ⟨?_, ?_⟩, ?_⟩ <;> first | assumption | omega | (intro e; exact q1 e.symm) | (intro e; exact q2 e.symm) | (intro e; exact q4 e.symm)
    · intro b hb
      simp only [List.mem_cons, List.not_mem_nil, or_false] at hb
      rcases hb with rfl | rfl | rfl | rfl | rfl | rfl | rfl | rfl | rfl | rfl <;> omega
  · refine ⟨(hP.of_block (hbw.block _ lP)).congr fun a ha => by simp [prAt, ha, zeroSt], row_of_made h1, row_of_made h2, S3.uns, row_of_made h3, fun p _ g hg => by simp [zeroSt] at hg, fun p p' g _ _ hg => by simp [zeroSt] at hg⟩
  · exact ⟨by show B ≤ P; omega, by show B ≤ gH; omega, by show B ≤ gA; omega, by show B ≤ B + 2 + 1 + 1 + 1; omega, by show B ≤ gL; omega, by omega⟩
  · exact ⟨by show B ≠ P; omega, by show B ≠ gH; omega, by show B ≠ gA; omega, by show B ≠ B + 2 + 1 + 1 + 1; omega, by show B ≠ gL; omega⟩

theorem il_two (mask : Int) (k : Nat) : (ilOf mask k).length ≤ 2 ∧ ∀ e ∈ ilOf mask k, e < 2 := by
  refine ⟨?_, fun e he => ?_⟩
  · unfold ilOf l0 l1; by_cases h0 : b0 mask k = true <;> by_cases h1 : b1 mask k = true <;> simp [h0, h1]
  · rw [mem_ilOf] at he; omega
theorem il_nodup (mask : Int) (k : Nat) : (ilOf mask k).Nodup := by
  unfold ilOf l0 l1; by_cases h0 : b0 mask k = true <;> by_cases h1 : b1 mask k = true <;> simp [h0, h1]


theorem Inv.start {tm wh : Nat → Int} {pb : Nat → Nat} {n m : Nat} {mk : Nat → Int} {pub : Nat} {il : Nat → List Nat} : Inv tm wh pb n m mk pub il 0 (zeroSt il n) :=
  ⟨fun _ _ => ⟨rfl, rfl, rfl⟩, fun _ _ => rfl, fun _ _ => rfl, fun _ _ _ _ => ⟨rfl, rfl, rfl⟩, fun _ _ => ⟨fun _ _ _ => rfl, fun _ => rfl⟩⟩
end Go.Proofs.Ybulkbhtk
