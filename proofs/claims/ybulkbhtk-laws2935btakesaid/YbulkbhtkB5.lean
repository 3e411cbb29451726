import Derived.Test.YbulkbhtkB4
import Derived.BigRegion
namespace Go.Proofs.Ybulkbhtk
open Go.RowKit

section
variable {x : Ids} {B N n m : Nat} {mk : Nat → Int} {pub : Nat} {ia : Nat → Option Addr} {ic : Nat → Nat} {il : Nat → List Nat} {s : St} {w : World}

theorem info59 : (Yba.prog.info? 59).map (fun i => (i.zero, i.size, i.bytes)) = some (some (.agg #[.int .i64 0, .float .f64 0, .bool false]), 3, 24) := by kernel_rfl
theorem mk57 (k : Nat) (hk : k ≤ 4) (w : World) : (Instr.makeSlice 57 (.int .i64 (k : Int)) (.int .i64 (k : Int))).run Yba.prog w = .ok (.slice (some ⟨w.heap.size, 0, none⟩) k k) (w.alloc (.cells (madeCells #[.int .i64 0, .float .f64 0, .bool false] (k * 3)) 59)) := by
  obtain ⟨i, hi, hz0, hz1, hz2⟩ := info_parts info59
  have := run_make (P := Yba.prog) w 57 59 i _ Yba.underlying57 hi hz0 .i64 .i64 k k (by omega) (Int.le_refl _) (by rw [hz2]; omega) (by omega)
  simp only [Int.toNat_natCast, hz1, Value.cells] at this
  exact this
theorem set_alloc_comm (w : World) (b o : Nat) (v : Value) (ob : Obj) (h : b < w.heap.size) : (w.alloc ob).setCell ⟨b, o, none⟩ v = (w.setCell ⟨b, o, none⟩ v).alloc ob := by
  simp [go_sem, h]
theorem row59 (w : World) (k : Nat) (s : St) (q : Nat) (hz : ∀ j, j < k → s.kt q j = 0 ∧ s.kp q j = 0 ∧ s.ks q j = false) :
    (w.alloc (.cells (madeCells #[.int .i64 0, .float .f64 0, .bool false] (k * 3)) 59)).rowIs w.heap.size 59 (k * 3) (keptCell s q) := by
  refine ⟨_, Deep.blk_alloc_new _ _, size_madeCells _ _, fun i hi => ?_⟩
  obtain ⟨h1, h2, h3⟩ := hz (i / 3) (by omega)
  have hm : i % 3 = 0 ∨ i % 3 = 1 ∨ i % 3 = 2 := by omega
  rcases hm with h | h | h <;> simp [madeCells, hi, keptCell, h, h1, h2, h3]

set_option maxHeartbeats 1000000 in
theorem take_fresh (j q : Nat) (t : Int) (p : Nat) (hF : Fix x N n m mk pub ia ic il w) (hV : Var x N n m s w) (hL : Lo B x N) (hj : j < n) (ht : mk pub < t) (hqm : q < m) (hq : FirstAt m mk t q) (hg : s.lt q = none) (hz : ∀ k, k < n → s.kt q k = 0 ∧ s.kp q k = 0 ∧ s.ks q k = false) :
    Calls Yba.prog 8 #[.pointer (some ⟨x.S, 0, none⟩), .agg #[.int .i64 t, .string (idOf j), .float .f64 p]] w fun e w' => e = .returned (.tuple #[]) ∧ Fix x N n m mk pub ia ic il w' ∧ (∃ g, Var x N n m (s.kept q j t p g) w') ∧ Below B w w' := by
  obtain ⟨n1, n2⟩ := hF.nn
  have hm := hF.mm
  have hp := hF.hp
  have hqm' := int_ne_nat q m (by omega)
  have b1 := (Below.refl w.heap.size w).alloc (Nat.le_refl _) (.cells #[.int .i64 t, .string (idOf j), .float .f64 p] 54)
  have F1 := hF.below b1 hF.sz
  have V1 := hV.below b1
  have s7 := F1.s7
  have s4 := F1.s4
  have s5 := F1.s5
  have cm := F1.mks.cell hp
  have hl := fun nq => (F1.pos.of_block (w' := (w.alloc (.cells #[.int .i64 t, .string (idOf j), .float .f64 p] 54)).drewN nq) rfl).hit n2 hj
  have hmks := F1.mks
  have hsr := fun W' h => search_any x.M m mk t W' hm h hF.inc q hq
  have hnil := fun w' a n c n' c' => Lib.run_eql_slice_nil (P := Yba.prog) w' 57 59 a n c n' c' Yba.underlying57
  have key : ∀ nq, Fix x N n m mk pub ia ic il ((w.alloc (.cells #[.int .i64 t, .string (idOf j), .float .f64 p] 54)).drewN nq) ∧ Var x N n m s ((w.alloc (.cells #[.int .i64 t, .string (idOf j), .float .f64 p] 54)).drewN nq) ∧
      ((w.alloc (.cells #[.int .i64 t, .string (idOf j), .float .f64 p] 54)).drewN nq).cell? ⟨w.heap.size, 0, none⟩ = some (.int .i64 t) ∧ ((w.alloc (.cells #[.int .i64 t, .string (idOf j), .float .f64 p] 54)).drewN nq).cell? ⟨w.heap.size, 2, none⟩ = some (.float .f64 p) ∧
      Below w.heap.size w ((w.alloc (.cells #[.int .i64 t, .string (idOf j), .float .f64 p] 54)).drewN nq) := fun nq =>
    ⟨F1.below (w' := (w.alloc (.cells #[.int .i64 t, .string (idOf j), .float .f64 p] 54)).drewN nq) ⟨rfl, rfl, rfl, Nat.le_refl _, fun _ _ => rfl⟩ F1.sz, V1.below (w' := (w.alloc (.cells #[.int .i64 t, .string (idOf j), .float .f64 p] 54)).drewN nq) ⟨rfl, rfl, rfl, Nat.le_refl _, fun _ _ => rfl⟩, by simp [go_sem], by simp [go_sem], ⟨b1.os, b1.tape, b1.output, b1.size, b1.block⟩⟩
  clear F1 hq b1 V1
  go_enter Yba.func8, Yba.ntmps8
  go_wp2
  go_quiet (fail)
  obtain ⟨q1, rfl⟩ : ∃ q1, q1 = nq := ⟨_, rfl⟩
  go_wp2
  go_quiet (fail)
  obtain ⟨q2, rfl⟩ : ∃ q2, q2 = nq := ⟨_, rfl⟩
  go_wp2
  go_quiet ((go_at_call 11; (refine (hsr _ ?_).mono ?_; exact hmks; rintro e w2 ⟨rfl, rfl⟩; exact ⟨rfl, _, rfl⟩)))
  obtain ⟨q3, rfl⟩ : ∃ q3, q3 = nq := ⟨_, rfl⟩
  go_upto_region 7 with fail
  obtain ⟨F2, V2, c0, c2, b2⟩ := key (q1 + q2 + q3)
  generalize (w.alloc (.cells #[.int .i64 t, .string (idOf j), .float .f64 p] 54)).drewN (q1 + q2 + q3) = W2 at F2 V2 c0 c2 b2 ⊢
  clear key hsr hmks hl cm s5 s4 s7 hnil
  have hBw : B ≤ w.heap.size := Nat.le_trans hL.2.2.2.2.2 hF.sz
  have hBN := hL.2.2.2.2.2
  have hBL := hL.2.2.2.2.1
  have bb := (Below.refl W2.heap.size W2).alloc (Nat.le_refl _) (.cells (madeCells #[.int .i64 0, .float .f64 0, .bool false] (n * 3)) 59)
  have F3 := F2.below bb F2.sz
  have V3 := V2.below bb
  have hNg : N ≤ W2.heap.size := F2.sz
  have row3 := row59 W2 n s q hz
  have V4 := V3.setL hqm hg hNg (fun a ha e => by have := (V2.kb a ha _ e).2.lt; omega) row3
  have o4 := only_set (W2.alloc (.cells (madeCells #[.int .i64 0, .float .f64 0, .bool false] (n * 3)) 59)) x.L q (.slice (some ⟨W2.heap.size, 0, none⟩) n n)
  have F4 := F3.only o4 (.inr (.inr (.inr (.inr (.inl rfl)))))
  have B4 : Below B w ((W2.alloc (.cells (madeCells #[.int .i64 0, .float .f64 0, .bool false] (n * 3)) 59)).setCell ⟨x.L, q, none⟩ (.slice (some ⟨W2.heap.size, 0, none⟩) n n)) :=
    ((b2.mono hBw).trans (bb.mono (Nat.le_trans hBN hNg))).trans (o4.below hBL)
  have lw : w.heap.size < W2.heap.size := lt_of_cell c0
  have hLlt : x.L < W2.heap.size := V2.lts.lt
  have hwL : w.heap.size ≠ x.L := fun e => by have := hV.lts.lt; omega
  have c0' : ((W2.alloc (.cells (madeCells #[.int .i64 0, .float .f64 0, .bool false] (n * 3)) 59)).setCell ⟨x.L, q, none⟩ (.slice (some ⟨W2.heap.size, 0, none⟩) n n)).cell? ⟨w.heap.size, 0, none⟩ = some (.int .i64 t) :=
    (o4.cell (a := ⟨w.heap.size, 0, none⟩) hwL).trans ((bb.cell (p := ⟨w.heap.size, 0, none⟩) lw).trans c0)
  have c2' : ((W2.alloc (.cells (madeCells #[.int .i64 0, .float .f64 0, .bool false] (n * 3)) 59)).setCell ⟨x.L, q, none⟩ (.slice (some ⟨W2.heap.size, 0, none⟩) n n)).cell? ⟨w.heap.size, 2, none⟩ = some (.float .f64 p) :=
    (o4.cell (a := ⟨w.heap.size, 2, none⟩) hwL).trans ((bb.cell (p := ⟨w.heap.size, 2, none⟩) lw).trans c2)
  have s14 := F2.s14
  have s8 := F2.s8
  have s14' := F3.s14
  have s8' := F3.s8
  have cl := V2.lts.cell hqm
  have fl := V2.lts.frozen q
  have cl' := V3.lts.cell hqm
  have fl' := V3.lts.frozen q
  rw [hg] at cl cl'
  simp only [latVal] at cl cl'
  have hmk := mk57 n n2
  have hnil := fun w' a n c n' c' => Lib.run_eql_slice_nil (P := Yba.prog) w' 57 59 a n c n' c' Yba.underlying57
  clear F2 V2 F3 V3 row3 o4 bb b2
  go_upto_region 8 with fail
  go_region
  obtain ⟨W5, hW5, F5, V5, d0, d2, B5⟩ : ∃ W5, W5 = ((W2.setCell ⟨x.L, q, none⟩ (.slice (some ⟨W2.heap.size, 0, none⟩) n n)).alloc (.cells (madeCells #[.int .i64 0, .float .f64 0, .bool false] (n * 3)) 59)).drew ∧ Fix x N n m mk pub ia ic il W5 ∧
      Var x N n m { s with lt := upd s.lt q (some W2.heap.size) } W5 ∧ W5.cell? ⟨w.heap.size, 0, none⟩ = some (.int .i64 t) ∧ W5.cell? ⟨w.heap.size, 2, none⟩ = some (.float .f64 p) ∧ Below B w W5 := by
    refine ⟨_, rfl, ?_⟩
    rw [set_alloc_comm W2 x.L q _ _ hLlt] at F4 V4 c0' c2' B4
    exact ⟨F4.below (Below.refl _ _).drew F4.sz, V4.below (Below.refl _ _).drew, c0', c2', B4.drew⟩
  rw [← hW5]
  clear hW5 F4 V4 B4 c0' c2' s14 s8 s14' s8' cl fl cl' fl' hmk hnil c0 c2 lw hLlt hwL hF hV hL
  generalize W2.heap.size = g at V5 hNg ⊢
  have hg5 : ({ s with lt := upd s.lt q (some g) } : St).lt q = some g := by simp [upd]
  have s14 := F5.s14
  have cl := V5.lts.cell hqm
  simp only [upd, if_true, latVal] at cl
  have hrow := (V5.kb q hqm g hg5).2
  have k0 := hrow.cell (show j * 3 < n * 3 by omega)
  have k1 := hrow.cell (show j * 3 + 1 < n * 3 by omega)
  have k2 := hrow.cell (show j * 3 + 2 < n * 3 by omega)
  rw [keptCell0] at k0
  rw [keptCell1] at k1
  rw [keptCell2] at k2
  obtain ⟨_, _, h1⟩ := hz j hj
  rw [show ({ s with lt := upd s.lt q (some g) } : St).ks q j = false from h1] at k2
  have f0 := hrow.frozen (j * 3)
  have f1 := hrow.frozen (j * 3 + 1)
  have f2 := hrow.frozen (j * 3 + 2)
  have hBg : B ≤ g := Nat.le_trans hBN hNg
  have fin : ∀ q', Fix x N n m mk pub ia ic il (W5.drewN q') ∧ Var x N n m { s with lt := upd s.lt q (some g) } (W5.drewN q') ∧ Below B w (W5.drewN q') := fun q' =>
    ⟨F5.below (w' := W5.drewN q') ⟨rfl, rfl, rfl, Nat.le_refl _, fun _ _ => rfl⟩ F5.sz, V5.below (w' := W5.drewN q') ⟨rfl, rfl, rfl, Nat.le_refl _, fun _ _ => rfl⟩, B5.trans ⟨rfl, rfl, rfl, Nat.le_refl _, fun _ _ => rfl⟩⟩
  clear F5 V5 hrow B5 hz
  go_upto_region 10 with fail
  go_quiet (fail)
  go_wp2
  go_end0
  obtain ⟨Fz, Vz, Bz⟩ := fin nq
  obtain ⟨o, Vk⟩ := Vz.keep (j := j) hqm hg5 t p
  refine ⟨rfl, Fz.only o (.inr (.inr (.inr (.inr (.inr hNg))))), ⟨g, ?_⟩, Bz.trans (o.below hBg)⟩
  rw [St.kept, if_pos (.inl h1)]
  exact Vk
end
end Go.Proofs.Ybulkbhtk
