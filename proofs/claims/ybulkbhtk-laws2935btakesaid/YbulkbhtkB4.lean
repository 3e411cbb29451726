import Derived.Test.YbulkbhtkB3
import Derived.RegionTactic
import Derived.Lib.SliceRun
namespace Go.Proofs.Ybulkbhtk
open Go.RowKit

section
variable {x : Ids} {B N n m : Nat} {mk : Nat → Int} {pub : Nat} {ia : Nat → Option Addr} {ic : Nat → Nat} {il : Nat → List Nat} {s : St} {w : World}

set_option maxHeartbeats 1000000 in
theorem take_unknown (j : Nat) (t : Int) (p : Nat) (hF : Fix x N n m mk pub ia ic il w) (hj : n ≤ j) (hj5 : j < 5) :
    Calls Yba.prog 8 #[.pointer (some ⟨x.S, 0, none⟩), .agg #[.int .i64 t, .string (idOf j), .float .f64 p]] w fun e w' => e = .returned (.tuple #[]) ∧ Below w.heap.size w w' := by
  obtain ⟨n1, n2⟩ := hF.nn
  have b1 := (Below.refl w.heap.size w).alloc (Nat.le_refl _) (.cells #[.int .i64 t, .string (idOf j), .float .f64 p] 54)
  have F1 := hF.below b1 hF.sz
  have s7 := F1.s7
  have hl := fun nq => (F1.pos.of_block (w' := (w.alloc (.cells #[.int .i64 t, .string (idOf j), .float .f64 p] 54)).drewN nq) rfl).miss n2 hj hj5
  clear hF F1
  go_enter Yba.func8, Yba.ntmps8
  go_wp2
  go_quiet (fail)
  go_wp2
  refine bodyPost_ret (results_none rfl _ _ _) rfl ?_
  exact ⟨rfl, ⟨b1.os, b1.tape, b1.output, b1.size, b1.block⟩⟩

set_option maxHeartbeats 1000000 in
theorem take_value (R : World → Prop) (j : Nat) (t : Int) (p : Nat) (hF : Fix x N n m mk pub ia ic il w) (hj : j < n) (ht : t ≤ mk pub)
    (hv : ∀ w2, Below w.heap.size w w2 → Calls Yba.prog 10 #[.pointer (some ⟨x.S, 0, none⟩), .int .i64 j, .int .i64 t, .float .f64 p] w2 fun e w' => e = .returned (.tuple #[]) ∧ R w') :
    Calls Yba.prog 8 #[.pointer (some ⟨x.S, 0, none⟩), .agg #[.int .i64 t, .string (idOf j), .float .f64 p]] w fun e w' => e = .returned (.tuple #[]) ∧ R w' := by
  obtain ⟨n1, n2⟩ := hF.nn
  have hm := hF.mm
  have hp := hF.hp
  have b1 := (Below.refl w.heap.size w).alloc (Nat.le_refl _) (.cells #[.int .i64 t, .string (idOf j), .float .f64 p] 54)
  have F1 := hF.below b1 hF.sz
  have hv' := fun q => hv ((w.alloc (.cells #[.int .i64 t, .string (idOf j), .float .f64 p] 54)).drewN q) ⟨b1.os, b1.tape, b1.output, b1.size, b1.block⟩
  have s7 := F1.s7
  have s4 := F1.s4
  have s5 := F1.s5
  have cm := F1.mks.cell hp
  have hl := fun nq => (F1.pos.of_block (w' := (w.alloc (.cells #[.int .i64 t, .string (idOf j), .float .f64 p] 54)).drewN nq) rfl).hit n2 hj
  clear hF F1 hv
  go_enter Yba.func8, Yba.ntmps8
  go_wp2
  go_quiet (fail)
  go_wp2
  go_quiet (fail)
  go_wp2_with (go_at_call 10; go_loud (refine (hv' _).mono ?_); rintro e w' ⟨rfl, hR⟩)
  refine bodyPost_ret (results_none rfl _ _ _) rfl ?_
  exact ⟨rfl, hR⟩

theorem int_eq_nat (a b : Nat) (h : a = b) : ((a : Int) == (b : Int)) = true := by simp [h]
theorem int_ne_nat (a b : Nat) (h : a ≠ b) : ((a : Int) == (b : Int)) = false := by simp; omega

set_option maxHeartbeats 1000000 in
theorem take_beyond (j : Nat) (t : Int) (p : Nat) (hF : Fix x N n m mk pub ia ic il w) (hj : j < n) (ht : mk pub < t) (hq : FirstAt m mk t m) :
    Calls Yba.prog 8 #[.pointer (some ⟨x.S, 0, none⟩), .agg #[.int .i64 t, .string (idOf j), .float .f64 p]] w fun e w' => e = .returned (.tuple #[]) ∧ Below w.heap.size w w' := by
  obtain ⟨n1, n2⟩ := hF.nn
  have hm := hF.mm
  have hp := hF.hp
  have b1 := (Below.refl w.heap.size w).alloc (Nat.le_refl _) (.cells #[.int .i64 t, .string (idOf j), .float .f64 p] 54)
  have F1 := hF.below b1 hF.sz
  have s7 := F1.s7
  have s4 := F1.s4
  have s5 := F1.s5
  have cm := F1.mks.cell hp
  have hl := fun nq => (F1.pos.of_block (w' := (w.alloc (.cells #[.int .i64 t, .string (idOf j), .float .f64 p] 54)).drewN nq) rfl).hit n2 hj
  have hmks := F1.mks
  have hsr := fun W' h => search_any x.M m mk t W' hm h hF.inc m hq
  clear hF F1 hq
  go_enter Yba.func8, Yba.ntmps8
  go_wp2
  go_quiet (fail)
  go_wp2
  go_quiet (fail)
  go_wp2
  go_quiet ((go_at_call 11; go_loud (refine (hsr _ ?_).mono ?_; exact hmks; rintro e w2 ⟨rfl, rfl⟩; exact ⟨rfl, _, rfl⟩)))
  go_wp2
  refine bodyPost_ret (results_none rfl _ _ _) rfl ?_
  exact ⟨rfl, ⟨b1.os, b1.tape, b1.output, b1.size, b1.block⟩⟩

theorem keptCell0 (s : St) (q j : Nat) : keptCell s q (j * 3) = .int .i64 (s.kt q j) := by simp [keptCell]
theorem keptCell1 (s : St) (q j : Nat) : keptCell s q (j * 3 + 1) = .float .f64 (s.kp q j) := by
  have h1 : (j * 3 + 1) % 3 = 1 := by omega
  have h2 : (j * 3 + 1) / 3 = j := by omega
  simp [keptCell, h1, h2]
theorem keptCell2 (s : St) (q j : Nat) : keptCell s q (j * 3 + 2) = .bool (s.ks q j) := by
  have h1 : (j * 3 + 2) % 3 = 2 := by omega
  have h2 : (j * 3 + 2) / 3 = j := by omega
  simp [keptCell, h1, h2]

def upd2 {α : Type} (f : Nat → Nat → α) (q j : Nat) (v : α) : Nat → Nat → α := fun a b => if a = q ∧ b = j then v else f a b
/-- A trade is kept for mark q, whose row lies in block g. -/
def St.keep (s : St) (q j : Nat) (t : Int) (p : Nat) : St := { s with kt := upd2 s.kt q j t, kp := upd2 s.kp q j p, ks := upd2 s.ks q j true }
def St.kept (s : St) (q j : Nat) (t : Int) (p g : Nat) : St :=
  if s.ks q j = false ∨ s.kt q j ≤ t then ({ s with lt := upd s.lt q (some g) } : St).keep q j t p else { s with lt := upd s.lt q (some g) }

theorem upd_self {α : Type} (f : Nat → α) (k : Nat) (v : α) (h : f k = v) : upd f k v = f := by
  funext j; simp only [upd]; split
  · rename_i e; rw [e, h]
  · rfl

theorem Only.trans {b : Nat} {w1 w2 w3 : World} (h : Only b w1 w2) (k : Only b w2 w3) : Only b w1 w3 :=
  ⟨k.os.trans h.os, k.tape.trans h.tape, k.output.trans h.output, k.size.trans h.size, fun i hi => (k.block i hi).trans (h.block i hi)⟩

theorem Var.keep (h : Var x N n m s w) {q j g : Nat} (hq : q < m) (hg : s.lt q = some g) (t : Int) (p : Nat) :
    Only g w (((w.setCell ⟨g, j * 3, none⟩ (.int .i64 t)).setCell ⟨g, j * 3 + 1, none⟩ (.float .f64 p)).setCell ⟨g, j * 3 + 2, none⟩ (.bool true)) ∧
    Var x N n m (s.keep q j t p) (((w.setCell ⟨g, j * 3, none⟩ (.int .i64 t)).setCell ⟨g, j * 3 + 1, none⟩ (.float .f64 p)).setCell ⟨g, j * 3 + 2, none⟩ (.bool true)) := by
  have o := ((only_set w g (j * 3) (.int .i64 t)).trans (only_set _ g (j * 3 + 1) (.float .f64 p))).trans (only_set _ g (j * 3 + 2) (.bool true))
  obtain ⟨hN, hr⟩ := h.kb q hq g hg
  refine ⟨o, o.row (rowIs_ne h.prs hr (by decide)) h.prs, o.row (rowIs_ne h.hts hr (by decide)) h.hts, o.row (rowIs_ne h.ats hr (by decide)) h.ats, o.row (rowIs_ne h.uns hr (by decide)) h.uns, o.row (rowIs_ne h.lts hr (by decide)) h.lts, ?_, h.ki⟩
  intro a ha g' hg'
  by_cases e : a = q
  · subst e
    rw [show (s.keep a j t p).lt = s.lt from rfl, hg] at hg'
    simp at hg'
    subst hg'
    refine ⟨hN, (((hr.set (j * 3) (.int .i64 t)).set (j * 3 + 1) (.float .f64 p)).set (j * 3 + 2) (.bool true)).congr fun c hc => ?_⟩
    simp only [keptCell, St.keep, upd2, true_and]
    by_cases c0 : c % 3 = 0
    · rw [if_pos c0, if_pos c0, if_neg (by omega), if_neg (by omega)]
      by_cases cj : c = j * 3
      · rw [if_pos cj, if_pos (by omega)]
      · rw [if_neg cj, if_neg (by omega)]
    · rw [if_neg c0, if_neg c0]
      by_cases c1 : c % 3 = 1
      · rw [if_pos c1, if_pos c1, if_neg (by omega)]
        by_cases cj : c = j * 3 + 1
        · rw [if_pos cj, if_pos (by omega)]
        · rw [if_neg cj, if_neg (by omega), if_neg (by omega)]
      · rw [if_neg c1, if_neg c1]
        by_cases cj : c = j * 3 + 2
        · rw [if_pos cj, if_pos (by omega)]
        · rw [if_neg cj, if_neg (by omega), if_neg (by omega), if_neg (by omega)]
  · have hg2 : s.lt a = some g' := hg'
    have hne : g' ≠ g := fun e2 => e (h.ki a q g ha hq (by rw [← e2]; exact hg2) hg)
    obtain ⟨hN', hr'⟩ := h.kb a ha g' hg2
    refine ⟨hN', (o.row hne hr').congr fun c hc => ?_⟩
    simp only [keptCell, St.keep, upd2, e, false_and, if_false]

set_option maxHeartbeats 1000000 in
theorem take_kept (j q g : Nat) (t : Int) (p : Nat) (hF : Fix x N n m mk pub ia ic il w) (hV : Var x N n m s w) (hL : Lo B x N) (hj : j < n) (ht : mk pub < t) (hqm : q < m) (hq : FirstAt m mk t q) (hg : s.lt q = some g) :
    Calls Yba.prog 8 #[.pointer (some ⟨x.S, 0, none⟩), .agg #[.int .i64 t, .string (idOf j), .float .f64 p]] w fun e w' => e = .returned (.tuple #[]) ∧ Fix x N n m mk pub ia ic il w' ∧ Var x N n m (s.kept q j t p g) w' ∧ Below B w w' := by
  obtain ⟨n1, n2⟩ := hF.nn
  have hm := hF.mm
  have hp := hF.hp
  have hqm' := int_ne_nat q m (by omega)
  have b1 := (Below.refl w.heap.size w).alloc (Nat.le_refl _) (.cells #[.int .i64 t, .string (idOf j), .float .f64 p] 54)
  have F1 := hF.below b1 hF.sz
  have V1 := hV.below b1
  have s7 := F1.s7
  have s4 := F1.s4
  have s5 := F1.s5
  have cm := F1.mks.cell hp
  have hl := fun nq => (F1.pos.of_block (w' := (w.alloc (.cells #[.int .i64 t, .string (idOf j), .float .f64 p] 54)).drewN nq) rfl).hit n2 hj
  have hmks := F1.mks
  have hsr := fun W' h => search_any x.M m mk t W' hm h hF.inc q hq
  have hnil := fun w' a n c n' c' => Lib.run_eql_slice_nil (P := Yba.prog) w' 57 59 a n c n' c' Yba.underlying57
  have key : ∀ nq, Fix x N n m mk pub ia ic il ((w.alloc (.cells #[.int .i64 t, .string (idOf j), .float .f64 p] 54)).drewN nq) ∧ Var x N n m s ((w.alloc (.cells #[.int .i64 t, .string (idOf j), .float .f64 p] 54)).drewN nq) ∧
      ((w.alloc (.cells #[.int .i64 t, .string (idOf j), .float .f64 p] 54)).drewN nq).cell? ⟨w.heap.size, 0, none⟩ = some (.int .i64 t) ∧ ((w.alloc (.cells #[.int .i64 t, .string (idOf j), .float .f64 p] 54)).drewN nq).cell? ⟨w.heap.size, 2, none⟩ = some (.float .f64 p) ∧
      Below w.heap.size w ((w.alloc (.cells #[.int .i64 t, .string (idOf j), .float .f64 p] 54)).drewN nq) := fun nq =>
    ⟨F1.below (w' := (w.alloc (.cells #[.int .i64 t, .string (idOf j), .float .f64 p] 54)).drewN nq) ⟨rfl, rfl, rfl, Nat.le_refl _, fun _ _ => rfl⟩ F1.sz, V1.below (w' := (w.alloc (.cells #[.int .i64 t, .string (idOf j), .float .f64 p] 54)).drewN nq) ⟨rfl, rfl, rfl, Nat.le_refl _, fun _ _ => rfl⟩, by simp [go_sem], by simp [go_sem], ⟨b1.os, b1.tape, b1.output, b1.size, b1.block⟩⟩
  clear F1 hq b1 V1
  go_enter Yba.func8, Yba.ntmps8
  go_wp2
  go_quiet (fail)
  obtain ⟨q1, rfl⟩ : ∃ q1, q1 = nq := ⟨_, rfl⟩
  go_wp2
  go_quiet (fail)
  obtain ⟨q2, rfl⟩ : ∃ q2, q2 = nq := ⟨_, rfl⟩
  go_wp2
  go_quiet ((go_at_call 11; (refine (hsr _ ?_).mono ?_; exact hmks; rintro e w2 ⟨rfl, rfl⟩; exact ⟨rfl, _, rfl⟩)))
  obtain ⟨q3, rfl⟩ : ∃ q3, q3 = nq := ⟨_, rfl⟩
  go_upto_region 7 with fail
  obtain ⟨F2, V2, c0, c2, b2⟩ := key (q1 + q2 + q3)
  generalize (w.alloc (.cells #[.int .i64 t, .string (idOf j), .float .f64 p] 54)).drewN (q1 + q2 + q3) = W2 at F2 V2 c0 c2 b2 ⊢
  clear key hsr hmks hl cm s5 s4 s7 hnil
  have s14 := F2.s14
  have cl := V2.lts.cell hqm
  rw [hg] at cl
  simp only [latVal] at cl
  have hrow := (V2.kb q hqm g hg).2
  have k0 := hrow.cell (show j * 3 < n * 3 by omega)
  have k1 := hrow.cell (show j * 3 + 1 < n * 3 by omega)
  have k2 := hrow.cell (show j * 3 + 2 < n * 3 by omega)
  rw [keptCell0] at k0
  rw [keptCell1] at k1
  rw [keptCell2] at k2
  have f0 := hrow.frozen (j * 3)
  have f1 := hrow.frozen (j * 3 + 1)
  have f2 := hrow.frozen (j * 3 + 2)
  have hnil := fun w' a n c n' c' => Lib.run_eql_slice_nil (P := Yba.prog) w' 57 59 a n c n' c' Yba.underlying57
  have hNg := (V2.kb q hqm g hg).1
  have hBw : B ≤ w.heap.size := Nat.le_trans hL.2.2.2.2.2 hF.sz
  have hBg : B ≤ g := Nat.le_trans hL.2.2.2.2.2 hNg
  have eL : upd s.lt q (some g) = s.lt := upd_self s.lt q (some g) hg
  have fin : ∀ q', Fix x N n m mk pub ia ic il (W2.drewN q') ∧ Var x N n m s (W2.drewN q') ∧ Below B w (W2.drewN q') := fun q' =>
    ⟨F2.below (w' := W2.drewN q') ⟨rfl, rfl, rfl, Nat.le_refl _, fun _ _ => rfl⟩ F2.sz, V2.below (w' := W2.drewN q') ⟨rfl, rfl, rfl, Nat.le_refl _, fun _ _ => rfl⟩, (b2.mono hBw).trans ⟨rfl, rfl, rfl, Nat.le_refl _, fun _ _ => rfl⟩⟩
  clear F2 V2 hrow b2 hF hV hL
  by_cases h1 : s.ks q j = false
  · rw [h1] at k2
    go_upto_region 10 with fail
    go_quiet (fail)
    go_wp2
    go_end0
    obtain ⟨Fz, Vz, Bz⟩ := fin nq
    obtain ⟨o, Vk⟩ := Vz.keep (j := j) hqm hg t p
    refine ⟨rfl, Fz.only o (.inr (.inr (.inr (.inr (.inr hNg))))), ?_, Bz.trans (o.below hBg)⟩
    rw [St.kept, if_pos (.inl h1), eL]
    exact Vk
  · have h1' : s.ks q j = true := by simpa using h1
    rw [h1'] at k2
    clear h1
    by_cases h2 : s.kt q j ≤ t
    · go_upto_region 10 with fail
      go_quiet (fail)
      go_wp2
      go_end0
      obtain ⟨Fz, Vz, Bz⟩ := fin nq
      obtain ⟨o, Vk⟩ := Vz.keep (j := j) hqm hg t p
      refine ⟨rfl, Fz.only o (.inr (.inr (.inr (.inr (.inr hNg))))), ?_, Bz.trans (o.below hBg)⟩
      rw [St.kept, if_pos (.inr h2), eL]
      exact Vk
    · go_upto_region 10 with fail
      go_quiet (fail)
      go_wp2
      go_end0
      obtain ⟨Fz, Vz, Bz⟩ := fin nq
      refine ⟨rfl, Fz, ?_, Bz⟩
      rw [St.kept, if_neg (by simp [h1', h2]), eL]
      exact Vz
end
end Go.Proofs.Ybulkbhtk
