import Derived.Test.YbulkbhtkB2
import Derived.Deep.Cut
namespace Go.Proofs.Ybulkbhtk
open Go.RowKit

/-- The blocks that a trade may write lie from B on. -/
def Lo (B : Nat) (x : Ids) (N : Nat) : Prop := B ≤ x.P ∧ B ≤ x.H ∧ B ≤ x.A ∧ B ≤ x.U ∧ B ≤ x.L ∧ B ≤ N

def decU (un : Nat → Int) (l : List Nat) : Nat → Int := fun e => un e - (l.count e : Nat)
theorem decU_nil (un : Nat → Int) : decU un [] = un := by funext e; simp [decU]
theorem decU_step (un : Nat → Int) (l : List Nat) (i : Nat) (h : i < l.length) : upd (decU un (l.take i)) (l.getD i 0) (decU un (l.take i) (l.getD i 0) - 1) = decU un (l.take (i + 1)) := by
  have e1 : l.take (i + 1) = l.take i ++ [l.getD i 0] := by rw [List.take_succ_eq_append_getElem h]; simp [List.getD, h]
  rw [e1]
  funext e
  simp only [upd, decU, List.count_append]
  by_cases he : e = l.getD i 0
  · rw [if_pos he, ← he]; simp; omega
  · rw [if_neg he]
    have : [l.getD i 0].count e = 0 := by rw [List.count_eq_zero]; simpa using he
    rw [this]; simp

section
variable {x : Ids} {B N n m : Nat} {mk : Nat → Int} {pub : Nat} {ia : Nat → Option Addr} {ic : Nat → Nat} {il : Nat → List Nat} {s : St} {w : World}

def St.first (s : St) (k : Nat) (t : Int) (p : Nat) (l : List Nat) : St := { s with ht := upd s.ht k true, un := decU s.un l, ta := upd s.ta k t, pr := upd s.pr (2 * k + 1) p }
def St.again (s : St) (k : Nat) (t : Int) (p : Nat) : St := { s with ta := upd s.ta k t, pr := upd s.pr (2 * k + 1) p }

set_option maxHeartbeats 1000000 in
theorem value_first (k : Nat) (t : Int) (p : Nat) (hF : Fix x N n m mk pub ia ic il w) (hV : Var x N n m s w) (hL : Lo B x N) (hk : k < n) (hh : s.ht k = false) (hu : ∀ e, e < 2 → 0 ≤ s.un e ∧ s.un e ≤ 4) :
    Calls Yba.prog 10 #[.pointer (some ⟨x.S, 0, none⟩), .int .i64 k, .int .i64 t, .float .f64 p] w fun e w' =>
      e = .returned (.tuple #[]) ∧ Fix x N n m mk pub ia ic il w' ∧ Var x N n m (s.first k t p (il k)) w' ∧ Below B w w' := by
  have hn := hF.nn
  obtain ⟨n1, n2⟩ := hF.nn
  obtain ⟨L1, L2, L3, L4, L5, L6⟩ := hL
  have c9 := hF.s9
  have hc := hV.hts.cell hk
  rw [hh] at hc
  have hfz := hV.hts.frozen k
  have F1 := hF.only (only_set w x.H k (.bool true)) (.inr (.inl rfl))
  have V1 := hV.setH k true
  have B1 := (Below.refl B w).setCell (p := ⟨x.H, k, none⟩) L2 (.bool true)
  have f9 := F1.s9; have f11 := F1.s11
  have hi := F1.ins.cell hk
  go_enter Yba.func10, Yba.ntmps10
  go_wp2
  go_loopw [9, 33] (fun _ i wr => ∃ l : Nat, l ≤ (il k).length ∧ i = .int .i64 l ∧ Fix x N n m mk pub ia ic il wr ∧ Var x N n m { s with ht := upd s.ht k true, un := decU s.un ((il k).take l) } wr ∧ Below B w wr) (fun _ i _ => (il k).length - (intOf i).toNat)
  case atStart => exact ⟨0, Nat.zero_le _, rfl, F1, by rw [List.take_zero, decU_nil]; exact V1, B1⟩
  case round =>
    obtain ⟨l, hl, rfl, Fr, Vr, Br⟩ := hrel
    have i2 := hF.i2 k hk
    have i3 := i2.1
    clear F1 V1 B1 f9 f11 hi c9 hc hfz hF hV hh
    by_cases hlt : l < (il k).length
    · rcases Fr.inr k hk with h0 | ⟨b, h1, _, _, _, _, _, _, hcell⟩
      · rw [h0] at hlt; simp at hlt
      have ce := hcell l hlt
      have he : (il k).getD l 0 < 2 := i2.2 _ (by simp [List.getD, List.getElem?_eq_getElem hlt])
      have hst := decU_step s.un (il k) l hlt
      have hcnt : (((il k).take l).count ((il k).getD l 0) : Nat) ≤ 2 := Nat.le_trans List.count_le_length (by simp; omega)
      obtain ⟨e, hee⟩ : ∃ e, e = (il k).getD l 0 := ⟨_, rfl⟩
      rw [← hee] at ce he hst hcnt
      have hue := hu e he
      have cu := Vr.uns.cell he
      have fu := Vr.uns.frozen e
      have hd : decU s.un ((il k).take l) e = s.un e - (((il k).take l).count e : Nat) := rfl
      obtain ⟨d, hdd⟩ : ∃ d, d = decU s.un ((il k).take l) e := ⟨_, rfl⟩
      have d1 : -2 ≤ d := by omega
      have d2 : d ≤ 4 := by omega
      have cu' : wr.cell? ⟨x.U, e, none⟩ = some (.int .i64 d) := by rw [hdd]; exact cu
      have V2 := Vr.setU e (d - 1)
      have F2 := Fr.only (only_set wr x.U e (.int .i64 (d - 1))) (.inr (.inr (.inr (.inl rfl))))
      have B2 := Br.setCell (p := ⟨x.U, e, none⟩) L4 (.int .i64 (d - 1))
      have V2' : Var x N n m { s with ht := upd s.ht k true, un := decU s.un ((il k).take (l + 1)) } (wr.setCell ⟨x.U, e, none⟩ (.int .i64 (d - 1))) := by
        rw [← hst, ← hdd]; exact V2
      have s13 := Fr.s13
      clear hcell hst hcnt hee cu hd hdd V2 Vr i2 hu
      go_wp2
      go_roundw
      case rel => exact ⟨l + 1, by omega, by go_num, F2, V2', B2⟩
      case measure => simp [intOf]; omega
    · obtain rfl : l = (il k).length := by omega
      rw [List.take_length] at Vr
      have s10 := Fr.s10
      have ca := Vr.ats.cell hk
      have fa := Vr.ats.frozen k
      have F2 := Fr.only (only_set wr x.A k (.int .i64 t)) (.inr (.inr (.inl rfl)))
      have V2 := Vr.setA k t
      have B2 := Br.setCell (p := ⟨x.A, k, none⟩) L3 (.int .i64 t)
      have s6 := F2.s6
      have s8 := F2.s8
      have cc := F2.col.cell hk
      have cp := V2.prs.cell (show 2 * k + 1 < 2 * n + 1 by omega)
      have fp := V2.prs.frozen (2 * k + 1)
      have F3 := F2.only (only_set _ x.P (2 * k + 1) (.float .f64 p)) (.inl rfl)
      have V3 := V2.setP (2 * k + 1) p
      have B3 := B2.setCell (p := ⟨x.P, 2 * k + 1, none⟩) L1 (.float .f64 p)
      clear Fr Vr F2 V2 B2 Br i2 hu
      go_upto_region 9 with fail
      go_region
      all_goals (go_end0; exact ⟨rfl, F3.below (Below.refl _ _).drew F3.sz, V3.below (Below.refl _ _).drew, B3.drew⟩)

set_option maxHeartbeats 1000000 in
theorem value_again (k : Nat) (t : Int) (p : Nat) (hF : Fix x N n m mk pub ia ic il w) (hV : Var x N n m s w) (hL : Lo B x N) (hk : k < n) (hh : s.ht k = true) (ht : ¬ t < s.ta k) :
    Calls Yba.prog 10 #[.pointer (some ⟨x.S, 0, none⟩), .int .i64 k, .int .i64 t, .float .f64 p] w fun e w' =>
      e = .returned (.tuple #[]) ∧ Fix x N n m mk pub ia ic il w' ∧ Var x N n m (s.again k t p) w' ∧ Below B w w' := by
  obtain ⟨n1, n2⟩ := hF.nn
  obtain ⟨L1, L2, L3, L4, L5, L6⟩ := hL
  have c9 := hF.s9
  have hc := hV.hts.cell hk
  rw [hh] at hc
  have s10 := hF.s10
  have ca := hV.ats.cell hk
  have fa := hV.ats.frozen k
  have F2 := hF.only (only_set w x.A k (.int .i64 t)) (.inr (.inr (.inl rfl)))
  have V2 := hV.setA k t
  have B2 := (Below.refl B w).setCell (p := ⟨x.A, k, none⟩) L3 (.int .i64 t)
  have s6 := F2.s6
  have s8 := F2.s8
  have cc := F2.col.cell hk
  have cp := V2.prs.cell (show 2 * k + 1 < 2 * n + 1 by omega)
  have fp := V2.prs.frozen (2 * k + 1)
  have F3 := F2.only (only_set _ x.P (2 * k + 1) (.float .f64 p)) (.inl rfl)
  have V3 := V2.setP (2 * k + 1) p
  have B3 := B2.setCell (p := ⟨x.P, 2 * k + 1, none⟩) L1 (.float .f64 p)
  clear hF hV F2 V2 B2 hh
  go_enter Yba.func10, Yba.ntmps10
  go_upto_region 9 with fail
  go_region
  all_goals (go_end0; exact ⟨rfl, F3.below (Below.refl _ _).drew F3.sz, V3.below (Below.refl _ _).drew, B3.drew⟩)

set_option maxHeartbeats 1000000 in
theorem value_late (k : Nat) (t : Int) (p : Nat) (hF : Fix x N n m mk pub ia ic il w) (hV : Var x N n m s w) (hk : k < n) (hh : s.ht k = true) (ht : t < s.ta k) :
    Calls Yba.prog 10 #[.pointer (some ⟨x.S, 0, none⟩), .int .i64 k, .int .i64 t, .float .f64 p] w fun e w' =>
      e = .returned (.tuple #[]) ∧ w' = w := by
  obtain ⟨n1, n2⟩ := hF.nn
  have c9 := hF.s9
  have hc := hV.hts.cell hk
  rw [hh] at hc
  have s10 := hF.s10
  have ca := hV.ats.cell hk
  clear hF hV hh
  go_enter Yba.func10, Yba.ntmps10
  go_wp2
  first | go_end0 | refine bodyPost_ret (results_none rfl _ _ _) rfl ?_
  exact ⟨rfl, rfl⟩
end
end Go.Proofs.Ybulkbhtk
