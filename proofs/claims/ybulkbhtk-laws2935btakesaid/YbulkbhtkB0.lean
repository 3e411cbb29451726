import Derived.Test.YbulkbhtkA2
namespace Go.Proofs.Ybulkbhtk
open Go.RowKit

/-! ### Floats: no number made out of an integer is a NaN; what is no NaN equals itself -/
theorem datum_order_self (d : Ieee.Datum) (h : d.isNaN = false) : d.order d = some .eq := by
  cases d with
  | number s m i => simp [Ieee.Datum.order]
  | infinity s => simp [Ieee.Datum.order]
  | nan s t => simp [Ieee.Datum.isNaN] at h

theorem read_word (f : Ieee.Format) (neg : Bool) (rung : Nat) (h : rung ≤ f.infRung) : (f.read (f.word neg rung)).isNaN = false := by
  have hlt := f.infRung_lt
  have e : f.word neg rung % f.signWeight = rung := by
    unfold Ieee.Format.word
    split
    · rw [Nat.add_mod_left, Nat.mod_eq_of_lt (by omega)]
    · exact Nat.mod_eq_of_lt (by omega)
  unfold Ieee.Format.read
  simp only [e]
  split
  · rfl
  · split
    · rfl
    · split
      · rfl
      · omega

theorem nearest_self (f : Ieee.Format) (neg : Bool) (mag : Nat) (place : Int) : f.order (f.nearest neg mag place) (f.nearest neg mag place) = some .eq := by
  unfold Ieee.Format.order
  refine datum_order_self _ ?_
  unfold Ieee.Format.nearest
  dsimp only
  split
  · exact read_word f neg 0 (Nat.zero_le _)
  · exact read_word f _ _ (Nat.min_le_right ..)

theorem floatOfInt_self (n : Int) : FloatKind.f64.format.order (floatOfInt .f64 n) (floatOfInt .f64 n) = some .eq := by
  exact nearest_self _ _ _ _

theorem minus1_self : FloatKind.f64.format.order 13830554455654793216 13830554455654793216 = some .eq := by decide +kernel

/-! ### The plain model: the latest trade of constituent k among the first i ticks -/
def best (tm wh : Nat → Int) (pb : Nat → Nat) (k : Int) (hasLo : Bool) (lo hi : Int) : Nat → Bool × Int × Nat
  | 0 => (false, 0, 0)
  | i + 1 =>
    if wh i % 5 ≠ k then best tm wh pb k hasLo lo hi i
    else if hi < tm i ∨ (hasLo = true ∧ tm i ≤ lo) then best tm wh pb k hasLo lo hi i
    else if (best tm wh pb k hasLo lo hi i).1 = false ∨ (best tm wh pb k hasLo lo hi i).2.1 ≤ tm i then (true, tm i, pb i)
    else best tm wh pb k hasLo lo hi i

/-- A slice of ticks that came in: three cells a tick. -/
def Tks (w : World) (a : Option Addr) (n : Nat) (tu wh pr : Nat → Int) : Prop :=
  n = 0 ∨ ∃ b off, a = some ⟨b, off, none⟩ ∧ ∀ i, i < n → w.cell? ⟨b, off + i * 3, none⟩ = some (.int .u16 (tu i)) ∧ w.cell? ⟨b, off + i * 3 + 1, none⟩ = some (.int .u8 (wh i)) ∧ w.cell? ⟨b, off + i * 3 + 2, none⟩ = some (.int .i32 (pr i))

theorem Tks.below {w w' : World} {a n tu wh pr} {B : Nat} (h : Tks w a n tu wh pr) (hB : w.heap.size ≤ B) (hb : Below B w w') : Tks w' a n tu wh pr := by
  rcases h with h | ⟨b, off, rfl, h⟩
  · exact .inl h
  · refine .inr ⟨b, off, rfl, fun i hi => ?_⟩
    obtain ⟨h1, h2, h3⟩ := h i hi
    have hlt : b < B := Nat.lt_of_lt_of_le (lt_of_cell h1) hB
    exact ⟨(hb.cell (p := ⟨b, _, none⟩) hlt).trans h1, (hb.cell (p := ⟨b, _, none⟩) hlt).trans h2, (hb.cell (p := ⟨b, _, none⟩) hlt).trans h3⟩

set_option maxHeartbeats 800000 in
theorem best_any (a : Option Addr) (n c : Nat) (tu wh pr : Nat → Int) (k : Nat) (hasLo : Bool) (lo hi : Int) (w : World) (hn : n ≤ 1024)
    (hT : Tks w a n tu wh pr) (bT : ∀ i, i < n → 0 ≤ tu i ∧ tu i ≤ 65535) (bW : ∀ i, i < n → 0 ≤ wh i ∧ wh i ≤ 255) :
    Calls Yba.prog 9 #[.slice a n c, .int .i64 k, .bool hasLo, .int .i64 lo, .int .i64 hi] w fun e w' =>
      e = .returned (.tuple #[.bool (best (fun i => tu i - 100) wh (fun i => floatOfInt .f64 (pr i)) k hasLo lo hi n).1, .int .i64 (best (fun i => tu i - 100) wh (fun i => floatOfInt .f64 (pr i)) k hasLo lo hi n).2.1, .float .f64 (best (fun i => tu i - 100) wh (fun i => floatOfInt .f64 (pr i)) k hasLo lo hi n).2.2]) ∧ Below w.heap.size w w' := by
  obtain ⟨bst, hbst⟩ : ∃ bst : Nat → Bool × Int × Nat, bst = best (fun i => tu i - 100) wh (fun i => floatOfInt .f64 (pr i)) k hasLo lo hi := ⟨_, rfl⟩
  rw [← hbst]
  have b0 : bst 0 = (false, 0, 0) := by rw [hbst]; rfl
  have bs : ∀ i, bst (i + 1) = if wh i % 5 ≠ k then bst i else if hi < tu i - 100 ∨ (hasLo = true ∧ tu i - 100 ≤ lo) then bst i else if (bst i).1 = false ∨ (bst i).2.1 ≤ tu i - 100 then (true, tu i - 100, floatOfInt .f64 (pr i)) else bst i := fun i => by rw [hbst]; rfl
  clear hbst
  go_enter Yba.func9, Yba.ntmps9
  go_wp2
  go_loopw [13, 14, 15, 16] (fun f t p i wr => ∃ j : Nat, j ≤ n ∧ i = .int .i64 j ∧ f = .bool (bst j).1 ∧ t = .int .i64 (bst j).2.1 ∧ p = .float .f64 (bst j).2.2 ∧ Below w.heap.size w wr) (fun _ _ _ i _ => n - (intOf i).toNat)
  case atStart => exact ⟨0, Nat.zero_le _, rfl, by rw [b0], by rw [b0], by rw [b0], Below.refl _ _⟩
  case round =>
    obtain ⟨j, hj, rfl, rfl, rfl, rfl, hb⟩ := hrel
    by_cases hlt : j < n
    · rcases hT.below (Nat.le_refl _) hb with h0 | ⟨b, off, rfl, hc⟩
      · omega
      obtain ⟨c1, c2, c3⟩ := hc j hlt
      obtain ⟨t0, t1⟩ := bT j hlt
      obtain ⟨w0, w1⟩ := bW j hlt
      have Bs := bs j
      clear hc bT bW bs hT
      have hb1 := hb.alloc hb.size (.cells #[.int .u16 (tu j), .int .u8 (wh j), .int .i32 (pr j)] 51)
      by_cases q1 : wh j % 5 = k
      · rw [if_neg (by simpa using q1)] at Bs
        have q1' : (wh j % 5 != (k : Int)) = false := by simpa using q1
        clear q1
        by_cases q2 : hi < tu j - 100
        · have HB : Hid (bst (j + 1) = bst j) := by rw [if_pos (.inl q2)] at Bs; exact Bs
          clear Bs
          go_wp2
          go_roundw
          case rel => exact ⟨j + 1, by omega, by go_num, by rw [HB.out], by rw [HB.out], by rw [HB.out], hb1⟩
          case measure => simp [intOf]; omega
        · by_cases q3 : hasLo = true ∧ tu j - 100 ≤ lo
          · have HB : Hid (bst (j + 1) = bst j) := by rw [if_pos (.inr q3)] at Bs; exact Bs
            obtain ⟨rfl, q3⟩ := q3
            clear Bs
            go_wp2
            go_roundw
            case rel => exact ⟨j + 1, by omega, by go_num, by rw [HB.out], by rw [HB.out], by rw [HB.out], hb1⟩
            case measure => simp [intOf]; omega
          · rw [if_neg (fun h => h.elim q2 q3)] at Bs
            by_cases q4 : (bst j).1 = false ∨ (bst j).2.1 ≤ tu j - 100
            · have HB : Hid (bst (j + 1) = (true, tu j - 100, floatOfInt .f64 (pr j))) := by rw [if_pos q4] at Bs; exact Bs
              clear Bs
              cases hasLo
              all_goals
                try (have q3 : ¬ tu j - 100 ≤ lo := by simpa using q3)
                rcases Bool.eq_false_or_eq_true (bst j).1 with q5 | q5
                all_goals
                  try (have q6 : (bst j).2.1 ≤ tu j - 100 := by rcases q4 with h | h <;> simp_all)
                  clear q4
                  go_wp2
                  go_quiet (fail)
                  go_wp2
                  go_roundw
                  case rel => exact ⟨j + 1, by omega, by go_num, by rw [HB.out], by rw [HB.out], by rw [HB.out], ⟨hb1.os, hb1.tape, hb1.output, hb1.size, hb1.block⟩⟩
                  case measure => simp [intOf]; omega
            · have HB : Hid (bst (j + 1) = bst j) := by rw [if_neg q4] at Bs; exact Bs
              clear Bs
              have q5 : (bst j).1 = true := by cases h : (bst j).1 <;> simp_all
              have q6 : ¬ (bst j).2.1 ≤ tu j - 100 := fun h => q4 (.inr h)
              clear q4
              cases hasLo
              all_goals
                try (have q3 : ¬ tu j - 100 ≤ lo := by simpa using q3)
                go_wp2
                go_roundw
                case rel => exact ⟨j + 1, by omega, by go_num, by rw [HB.out], by rw [HB.out], by rw [HB.out], hb1⟩
                case measure => simp [intOf]; omega
      · rw [if_pos q1] at Bs
        have HB : Hid (bst (j + 1) = bst j) := Bs
        clear Bs
        go_wp2
        go_roundw
        case rel => exact ⟨j + 1, by omega, by go_num, by rw [HB.out], by rw [HB.out], by rw [HB.out], hb1⟩
        case measure => simp [intOf]; omega
    · obtain rfl : j = n := by omega
      go_wp2
      go_ret3
      exact ⟨rfl, hb⟩
end Go.Proofs.Ybulkbhtk
