import Derived.Test.YbulkbhtkA2
import Derived.Deep.Cut
namespace Go.Proofs.Ybulkbhtk
open Go.RowKit

theorem ofrow_set {w : World} {g n m q k : Nat} {L : Nat → Int} (h : w.rowIs g 3 n (fun j => .int .i64 (if j < k then ofv m q L j else 0))) :
    (w.setCell ⟨g, k, none⟩ (.int .i64 (ofv m q L k))).rowIs g 3 n (fun j => .int .i64 (if j < k + 1 then ofv m q L j else 0)) := by
  refine (h.set k _).congr fun j _ => ?_
  by_cases e : j = k
  · subst e; simp
  · by_cases hj : j < k
    · simp [e, hj, Nat.lt_succ_of_lt hj]
    · simp [e, hj, show ¬ j < k + 1 by omega]

set_option maxHeartbeats 400000 in
theorem law_big (a0 a1 a2 : Option Addr) (m n q c0 c1 c2 : Nat) (w : World) (h : 1024 < n ∨ 1024 < m ∨ 1024 < q) :
    Calls Yba.prog 3 #[.slice a0 m c0, .slice a1 n c1, .slice a2 q c2] w fun e w' => e = .returned (.bool true) ∧ Below w.heap.size w w' := by
  by_cases h1 : 1024 < n
  · go_enter Yba.func3, Yba.ntmps3
    go_wp2
    go_ret
    exact ⟨rfl, Below.refl _ _⟩
  · by_cases h2 : 1024 < m
    · clear h
      go_enter Yba.func3, Yba.ntmps3
      go_wp2
      go_ret
      exact ⟨rfl, Below.refl _ _⟩
    · have h3 : 1024 < q := by omega
      clear h
      go_enter Yba.func3, Yba.ntmps3
      go_wp2
      go_ret
      exact ⟨rfl, Below.refl _ _⟩

set_option maxHeartbeats 800000 in
theorem law_small (a0 a1 a2 : Option Addr) (m n q c0 c1 c2 : Nat) (S V : Nat → Nat) (L : Nat → Int) (w : World) (hn : n ≤ 1024) (hm : m ≤ 1024) (hq : q ≤ 1024)
    (aS : Arr w a0 m (fun i => .float .f64 (S i))) (aV : Arr w a1 n (fun i => .float .f64 (V i))) (aL : Arr w a2 q (fun i => .int .u8 (L i))) (bL : ∀ i, i < q → 0 ≤ L i ∧ L i ≤ 255) :
    Calls Yba.prog 3 #[.slice a0 m c0, .slice a1 n c1, .slice a2 q c2] w fun e w' => e = .returned (.bool true) ∧ Below w.heap.size w w' := by
  have hmk := run_make_row' (P := Yba.prog) 24 3 (.int .i64 0) 8 Yba.underlying24 info3 rfl .i64 .i64 n (by omega) (by omega)
  have hmk1 := run_make_row' (P := Yba.prog) 22 31 (.float .f64 0) 8 Yba.underlying22 info31 rfl .i64 .i64 n (by omega) (by omega)
  have hmk2 := run_make_row' (P := Yba.prog) 22 31 (.float .f64 0) 8 Yba.underlying22 info31 rfl .i64 .i64 m (by omega) (by omega)
  go_enter Yba.func3, Yba.ntmps3
  go_wp2
  go_loopw [8, 35] (fun _ i wr => ∃ k : Nat, k ≤ n ∧ i = .int .i64 k ∧ wr.rowIs w.heap.size 3 n (fun j => .int .i64 (if j < k then ofv m q L j else 0)) ∧ Below w.heap.size w wr ∧ wr.heap.size = w.heap.size + 1) (fun _ i _ => n - (intOf i).toNat)
  case atStart => exact ⟨0, Nat.zero_le _, rfl, (World.rowIs_made w _ n 3).congr (fun j _ => by simp), (Below.refl _ _).alloc (Nat.le_refl _) _, by simp⟩
  case round =>
    obtain ⟨k, hk, rfl, hr, hb, hz⟩ := hrel
    by_cases hlt : k < n
    · have f2 := hr.frozen k
      have c2 := hr.cell hlt
      have R := ofrow_set hr
      have hb2 := fun v => hb.setCell (p := ⟨w.heap.size, k, none⟩) (Nat.le_refl _) v
      by_cases hkq : k < q
      · rcases aL with h0 | ⟨b, off, rfl, hc⟩
        · omega
        have c1 : wr.cell? ⟨b, off + k, none⟩ = some (.int .u8 (L k)) := (hb.cell (p := ⟨b, off + k, none⟩) (lt_of_cell (hc k hkq))).trans (hc k hkq)
        obtain ⟨b0, b1⟩ := bL k hkq
        have ev : ofv m q L k = L k % ((m : Int) + 1) - 1 := by simp [ofv, hkq]
        rw [ev] at R
        have e0 := Int.emod_nonneg (L k) (show ((m : Int) + 1) ≠ 0 by omega)
        have e1 := Int.emod_lt_of_pos (L k) (show 0 < ((m : Int) + 1) by omega)
        clear hr aS aV hc bL ev
        go_wp2
        go_roundw
        case rel => exact ⟨k + 1, by omega, by go_num, R, hb2 _, by simp [World.setCell, hz]⟩
        case measure => simp [intOf]; omega
      · have ev : ofv m q L k = -1 := by simp [ofv, hkq]
        rw [ev] at R
        clear hr aS aV aL bL ev
        go_wp2
        go_roundw
        case rel => exact ⟨k + 1, by omega, by go_num, R, hb2 _, by simp [World.setCell, hz]⟩
        case measure => simp [intOf]; omega
    · obtain rfl : k = n := by omega
      have hr' : wr.rowIs w.heap.size 3 k (fun j => .int .i64 (ofv m q L j)) := hr.congr (fun j hj => by simp [hj])
      have r1 := World.rowIs_made wr (.int .i64 0) k 3
      rw [hz] at r1
      have hr1 := hr'.alloc (.cells (madeCells #[.int .i64 0] k) 3)
      have a1' := Arr.of_row hr1
      have hb1 := hb.alloc (by omega) (.cells (madeCells #[.int .i64 0] k) 3)
      have hz1 : (wr.alloc (.cells (madeCells #[.int .i64 0] k) 3)).heap.size = w.heap.size + 2 := by simp [hz]
      clear hr hr' aL bL hlt
      go_upto_region 13 with (with_reducible show wpList _ _ _ (Oper.mk _ (Op.call _) _ _ _ _ :: _) _ _; refine wpList_copy_arr rfl (.tmp 62) (.tmp 63) 24 24 rfl 3 Yba.underlying24 size3 (w.heap.size + 1) k k k (some ⟨w.heap.size, 0, none⟩) rfl rfl 3 _ _ r1 a1' (fun _ _ => rfl) ?_; intro w1 r1' o1)
      have z1 : w1.heap.size = w.heap.size + 2 := o1.size.trans hz1
      have b1 : Below w.heap.size w w1 := hb1.trans (o1.below (Nat.le_succ _))
      have rO1 : w1.rowIs w.heap.size 3 k (fun j => .int .i64 (ofv m q L j)) := o1.row (by omega) hr1
      clear hr1 a1' r1 hb1 hz1 o1 hb hz
      have r2 := World.rowIs_made w1 (.float .f64 0) m 31
      rw [z1] at r2
      have b1' := b1.alloc (by omega) (.cells (madeCells #[.float .f64 0] m) 31)
      have aS2 := aS.below b1'
      have rO2 := rO1.alloc (.cells (madeCells #[.float .f64 0] m) 31)
      have rP2 := r1'.alloc (.cells (madeCells #[.float .f64 0] m) 31)
      have hz2 : (w1.alloc (.cells (madeCells #[.float .f64 0] m) 31)).heap.size = w.heap.size + 3 := by simp [z1]
      clear rO1 r1' b1 hmk
      go_upto_region 15 with (with_reducible show wpList _ _ _ (Oper.mk _ (Op.call _) _ _ _ _ :: _) _ _; refine wpList_copy_arr rfl (.tmp 68) (.tmp 69) 22 22 rfl 31 Yba.underlying22 size31 (w.heap.size + 2) m m c0 a0 rfl rfl 31 _ _ r2 aS2 (fun _ _ => rfl) ?_; intro w2 r2' o2)
      have z2 : w2.heap.size = w.heap.size + 3 := o2.size.trans hz2
      have b2 : Below w.heap.size w w2 := b1'.trans (o2.below (by omega))
      have rO3 := o2.row (by omega) rO2
      have rP3 := o2.row (by omega) rP2
      clear rO2 rP2 r2 b1' hz2 o2 aS2 z1
      have r3 := World.rowIs_made w2 (.float .f64 0) k 31
      rw [z2] at r3
      have b2' := b2.alloc (by omega) (.cells (madeCells #[.float .f64 0] k) 31)
      have aV2 := aV.below b2'
      have rO4 := rO3.alloc (.cells (madeCells #[.float .f64 0] k) 31)
      have rP4 := rP3.alloc (.cells (madeCells #[.float .f64 0] k) 31)
      have rS4 := r2'.alloc (.cells (madeCells #[.float .f64 0] k) 31)
      have hz3 : (w2.alloc (.cells (madeCells #[.float .f64 0] k) 31)).heap.size = w.heap.size + 4 := by simp [z2]
      clear rO3 rP3 r2' b2 hmk2
      go_upto_region 17 with (with_reducible show wpList _ _ _ (Oper.mk _ (Op.call _) _ _ _ _ :: _) _ _; refine wpList_copy_arr rfl (.tmp 74) (.tmp 75) 22 22 rfl 31 Yba.underlying22 size31 (w.heap.size + 3) k k c1 a1 rfl rfl 31 _ _ r3 aV2 (fun _ _ => rfl) ?_; intro w3 r3' o3)
      have z3 : w3.heap.size = w.heap.size + 4 := o3.size.trans hz3
      have b3 : Below w.heap.size w w3 := b2'.trans (o3.below (by omega))
      have rO5 := o3.row (by omega) rO4
      have rP5 := o3.row (by omega) rP4
      have rS5 := o3.row (by omega) rS4
      clear rO4 rP4 rS4 r3 b2' hz3 o3 aV2 z2 hmk1
      go_upto_region 18 with fail
      have cb : (w3.alloc (.cells #[.slice none 0 0, .slice (some ⟨w.heap.size + 1, 0, none⟩) k k] 27)).cell? ⟨w.heap.size + 4, 1, none⟩ = some (.slice (some ⟨w.heap.size + 1, 0, none⟩) k k) := by
        rw [← z3]; simp [go_sem]
      have b4 := b3.alloc (by omega) (.cells #[.slice none 0 0, .slice (some ⟨w.heap.size + 1, 0, none⟩) k k] 27)
      have rO6 := rO5.alloc (.cells #[.slice none 0 0, .slice (some ⟨w.heap.size + 1, 0, none⟩) k k] 27)
      have rP6 := rP5.alloc (.cells #[.slice none 0 0, .slice (some ⟨w.heap.size + 1, 0, none⟩) k k] 27)
      have rS6 := rS5.alloc (.cells #[.slice none 0 0, .slice (some ⟨w.heap.size + 1, 0, none⟩) k k] 27)
      have rV6 := r3'.alloc (.cells #[.slice none 0 0, .slice (some ⟨w.heap.size + 1, 0, none⟩) k k] 27)
      clear rO5 rP5 rS5 r3' b3
      go_upto_region 19 with (go_at_call 5; refine (spread_any (w.heap.size + 4) (w.heap.size + 1) (w.heap.size + 2) (w.heap.size + 3) k m (ofv m q L) S V _ hn hm cb rP6 rS6 rV6 (fun j _ => ofv_in m q L j) (by omega) (by omega)).mono ?_; rintro e w5 ⟨rfl, rV, o5⟩)
      have b5 : Below w.heap.size w w5 := b4.trans (o5.below (by omega))
      have rO := o5.row (by omega) rO6
      have rP := o5.row (by omega) rP6
      have rS := o5.row (by omega) rS6
      have aS5 := aS.below b5
      have aV5 := aV.below b5
      clear rO6 rP6 rS6 rV6 b4 o5 cb z3 aS aV
      have hfb := f64bits
      go_wp2_with fail
      go_loopw [13, 86] (fun _ i wx => ∃ l : Nat, l ≤ m ∧ i = .int .i64 l ∧ ∃ nq, wx = w5.drewN nq) (fun _ i _ => m - (intOf i).toNat)
      case atStart => exact ⟨0, Nat.zero_le _, rfl, 0, rfl⟩
      case round =>
        obtain ⟨l, hl, rfl, nq, rfl⟩ := hrel
        by_cases hlt : l < m
        · rcases aS5 with h0 | ⟨b, off, rfl, hc⟩
          · omega
          have g1 := hc l hlt
          have g2 := rS.cell hlt
          clear hc rS rO rP rV aV5
          go_wp2_with fail
          go_quiet (fail)
          go_wp2
          go_roundw
          case rel => exact ⟨l + 1, by omega, by go_num, _, rfl⟩
          case measure => simp [intOf]; omega
        · go_wp2_with fail
          go_loopw [14, 103] (fun _ i wx => ∃ l : Nat, l ≤ k ∧ i = .int .i64 l ∧ ∃ nq, wx = w5.drewN nq) (fun _ i _ => k - (intOf i).toNat)
          case atStart => exact ⟨0, Nat.zero_le _, rfl, _, rfl⟩
          case round =>
            obtain ⟨l, hl, rfl, nq, rfl⟩ := hrel
            by_cases hlt : l < k
            · have g1 := rO.cell hlt
              have g2 := rP.cell hlt
              clear rS rO rP rV aV5 aS5
              go_wp2_with fail
              go_quiet (fail)
              go_wp2
              go_roundw
              case rel => exact ⟨l + 1, by omega, by go_num, _, rfl⟩
              case measure => simp [intOf]; omega
            · go_wp2_with fail
              clear rS rP
              go_loopw [15, 16, 118] (fun _ _ i wx => ∃ l : Nat, l ≤ k ∧ i = .int .i64 l ∧ ∃ nq, wx = w5.drewN nq) (fun _ _ i _ => k - (intOf i).toNat)
              case atStart => exact ⟨0, Nat.zero_le _, rfl, _, rfl⟩
              case round =>
                obtain ⟨l, hl, rfl, nq, rfl⟩ := hrel
                by_cases hlt : l < k
                · have g1 := rO.cell hlt
                  have g2 := rV.cell hlt
                  obtain ⟨o0, o1⟩ := ofv_in m q L l
                  by_cases hp : 0 ≤ ofv m q L l
                  · have es : spr (ofv m q L) S V k l = S (ofv m q L l).toNat := by simp [spr, hlt, hp]
                    rw [es] at g2
                    rcases aS5 with h0 | ⟨b, off, rfl, hc⟩
                    · omega
                    have g3 := hc (ofv m q L l).toNat (by omega)
                    clear hc rO rV aV5 es
                    go_wp2
                    go_roundw
                    case rel => exact ⟨l + 1, by omega, by go_num, _, rfl⟩
                    case measure => simp [intOf]; omega
                  · have es : spr (ofv m q L) S V k l = V l := by simp [spr, hp]
                    rw [es] at g2
                    rcases aV5 with h0 | ⟨b, off, rfl, hc⟩
                    · omega
                    have g3 := hc l hlt
                    clear hc rO rV aS5 es
                    go_wp2
                    go_roundw
                    case rel => exact ⟨l + 1, by omega, by go_num, _, rfl⟩
                    case measure => simp [intOf]; omega
                · go_wp2
                  go_ret
                  exact ⟨rfl, ⟨b5.os, b5.tape, b5.output, b5.size, b5.block⟩⟩

end Go.Proofs.Ybulkbhtk
