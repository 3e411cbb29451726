import Derived.Test.YbulkbhwqC1
import Derived.Deep.RegionHeld3
import Derived.Deep.CutRange
import Derived.Deep.DeepCutAuto
import Derived.Deep.CutBlock
namespace Go.Proofs.Ybulkbhwq
open Go.RowKit Go.WideShapes

def cut (k : Nat) (F : Nat → Int) (i : Nat) : Int := if i < k then F i else 0
def cutN (k : Nat) (F : Nat → Nat) (i : Nat) : Nat := if i < k then F i else 0

theorem info33 : (Yba.prog.info? 33).map (fun i => (i.zero, i.size, i.bytes)) = some (some (.agg #[.int .u64 0, .int .u64 0, .int .i64 0, .pointer none]), 4, 32) := by kernel_rfl
theorem mk28 (k : Nat) (hk : k ≤ 1024) (w : World) : (Instr.makeSlice 28 (.int .i64 (k : Int)) (.int .i64 (k : Int))).run Yba.prog w = .ok (.slice (some ⟨w.heap.size, 0, none⟩) k k) (w.alloc (.cells (madeCells #[.int .u64 0, .int .u64 0, .int .i64 0, .pointer none] (k * 4)) 33)) := by
  obtain ⟨i, hi, hzz⟩ := Option.map_eq_some_iff.1 info33
  simp only [Prod.mk.injEq] at hzz
  obtain ⟨hz0, hz1, hz2⟩ := hzz
  have := run_make (P := Yba.prog) w 28 33 i _ Yba.underlying28 hi hz0 .i64 .i64 k k (by omega) (Int.le_refl _) (by rw [hz2]; omega) (by omega)
  simp only [Int.toNat_natCast, hz1, Value.cells] at this
  exact this
theorem regs_made (w : World) (n B : Nat) (O E : Nat → Int) (C : Nat → Nat) : Regs (w.alloc (.cells (madeCells #[.int .u64 0, .int .u64 0, .int .i64 0, .pointer none] (n * 4)) 33)) w.heap.size n B (cut 0 O) (cut 0 E) (cutN 0 C) := by
  refine ⟨_, Deep.blk_alloc_new _ _, size_madeCells _ _, fun i hi => ?_⟩
  have hm : i % 4 = 0 ∨ i % 4 = 1 ∨ i % 4 = 2 ∨ i % 4 = 3 := by omega
  rcases hm with h | h | h | h <;> simp [madeCells, hi, rc, h, cut, cutN, ptr]
theorem regs_set {w : World} {g n B k : Nat} {O E : Nat → Int} {C : Nat → Nat} (h : Regs w g n B (cut k O) (cut k E) (cutN k C)) :
    Regs ((((w.setCell ⟨g, k * 4, none⟩ (.int .u64 (O k))).setCell ⟨g, k * 4 + 1, none⟩ (.int .u64 (E k))).setCell ⟨g, k * 4 + 2, none⟩ (.int .i64 0)).setCell ⟨g, k * 4 + 3, none⟩ (.pointer (ptr B (C k)))) g n B (cut (k + 1) O) (cut (k + 1) E) (cutN (k + 1) C) := by
  have h' : w.rowIs g 33 (n * 4) _ := h
  refine ((((h'.set (k * 4) _).set (k * 4 + 1) _).set (k * 4 + 2) _).set (k * 4 + 3) _).congr fun j _ => ?_
  have hm : j % 4 = 0 ∨ j % 4 = 1 ∨ j % 4 = 2 ∨ j % 4 = 3 := by omega
  by_cases e : j / 4 = k
  · rcases hm with h | h | h | h
    · obtain rfl : j = k * 4 := by omega
      simp [rc, cut]
    · obtain rfl : j = k * 4 + 1 := by omega
      have h2 : (k * 4 + 1) / 4 = k := by omega
      simp [rc, cut, h, h2]
    · obtain rfl : j = k * 4 + 2 := by omega
      simp [rc, h]
    · obtain rfl : j = k * 4 + 3 := by omega
      have h2 : (k * 4 + 3) / 4 = k := by omega
      simp [rc, cutN, h, h2]
  · rw [if_neg (by omega), if_neg (by omega), if_neg (by omega), if_neg (by omega)]
    by_cases hl : j / 4 < k
    · have hl' : j / 4 < k + 1 := by omega
      simp [rc, cut, cutN, hl, hl']
    · have hl' : ¬ j / 4 < k + 1 := by omega
      simp [rc, cut, cutN, hl, hl']
theorem regs_whole {w : World} {g n B : Nat} {O E : Nat → Int} {C : Nat → Nat} (h : Regs w g n B (cut n O) (cut n E) (cutN n C)) : Regs w g n B O E C :=
  World.rowIs.congr h fun j hj => by
    have : j / 4 < n := by omega
    simp [rc, cut, cutN, this]

/-- The given regions. -/
def RsIn (w : World) (a : Option Addr) (n : Nat) (O E S : Nat → Int) : Prop :=
  n = 0 ∨ ∃ b off, a = some ⟨b, off, none⟩ ∧ ∀ i, i < n → w.cell? ⟨b, off + i * 3, none⟩ = some (.int .u64 (O i)) ∧ w.cell? ⟨b, off + i * 3 + 1, none⟩ = some (.int .u64 (E i)) ∧ w.cell? ⟨b, off + i * 3 + 2, none⟩ = some (.int .u8 (S i))
def partOf (S : Nat → Int) (i : Nat) : Nat := (S i % 4).toNat
theorem lt_of_cell {w : World} {a : Addr} {v : Value} (h : w.cell? a = some v) : a.block < w.heap.size := by
  rcases Nat.lt_or_ge a.block w.heap.size with h' | h'
  · exact h'
  · simp [World.cell?, Array.getElem?_eq_none h'] at h

theorem three_below {w w' : World} {B N : Nat} (h : Three w B) (hb : Below N w w') (hN : B + 3 ≤ N) : Three w' B := fun j hj => by
  obtain ⟨c, hc⟩ := h j hj
  exact ⟨c, by rw [hb.block _ (by omega), hc]⟩
theorem three_start (w : World) (c : Array Value) (o : Obj) : Three ((((w.alloc (.cells c 27)).alloc (.cells c 27)).alloc (.cells c 27)).alloc o) w.heap.size := fun j hj => by
  refine ⟨c, ?_⟩
  match j, hj with
  | 0, _ =>
    rw [Deep.blk_alloc_lt _ _ _ (by simp <;> omega), Deep.blk_alloc_lt _ _ _ (by simp <;> omega), Deep.blk_alloc_lt _ _ _ (by simp <;> omega)]
    exact Deep.blk_alloc_new _ _
  | 1, _ =>
    rw [Deep.blk_alloc_lt _ _ _ (by simp <;> omega), Deep.blk_alloc_lt _ _ _ (by simp <;> omega)]
    rw [show w.heap.size + 1 = (w.alloc (.cells c 27)).heap.size by simp]
    exact Deep.blk_alloc_new _ _
  | 2, _ =>
    rw [Deep.blk_alloc_lt _ _ _ (by simp <;> omega)]
    rw [show w.heap.size + 2 = ((w.alloc (.cells c 27)).alloc (.cells c 27)).heap.size by simp]
    exact Deep.blk_alloc_new _ _
set_option maxRecDepth 100000 in
theorem law_big (a : Option Addr) (n cap : Nat) (z s r : Int) (idNil : Bool) (w : World) (h : 1024 < n) :
    Calls Yba.prog 3 #[.int .u64 z, .int .u64 s, .int .u64 r, .bool idNil, .slice a n cap] w fun e w' => e = .returned (.bool true) ∧ Below w.heap.size w w' := by
  go_enter Yba.func3, Yba.ntmps3
  go_wp2
  go_ret
  exact ⟨rfl, Below.refl _ _⟩

set_option maxRecDepth 100000 in
set_option maxHeartbeats 4000000 in
theorem law_small (a : Option Addr) (n cap d : Nat) (z s r : Int) (idNil : Bool) (O E S : Nat → Int) (w : World) (hn : n ≤ 1024) (hI : RsIn w a n O E S) (hd : ptr w.heap.size d = if idNil then none else some ⟨w.heap.size, 0, none⟩) (bS : ∀ i, i < n → 0 ≤ S i ∧ S i ≤ 255) (hd3 : d ≤ 3) :
    Calls Yba.prog 3 #[.int .u64 z, .int .u64 s, .int .u64 r, .bool idNil, .slice a n cap] w fun e w' => e = .returned (.bool true) ∧ Below w.heap.size w w' := by
  have hmk := mk28 n hn
  go_enter Yba.func3, Yba.ntmps3
  go_upto_if 36 with fail
  go_cut [14] from 37 to 37 (fun v wx => v = .pointer (ptr w.heap.size d) ∧ wx = ((w.alloc (.cells #[.slice none 0 0, .int .u64 0, .int .u64 0] 27)).alloc (.cells #[.slice none 0 0, .int .u64 0, .int .u64 0] 27)).alloc (.cells #[.slice none 0 0, .int .u64 0, .int .u64 0] 27))
  case first =>
    cases idNil with
    | true =>
      go_wp2_with fail
      go_meet
      exact ⟨by rw [hd]; rfl, rfl⟩
    | false =>
      go_wp2_with fail
      go_meet
      exact ⟨by rw [hd]; rfl, rfl⟩
  case rest =>
    obtain ⟨rfl, rfl⟩ := hcut
    go_wp2_with fail
    go_loopw [16] (fun i wr => ∃ k : Nat, k ≤ n ∧ i = .int .i64 (k : Int) ∧ Regs wr (w.heap.size + 1 + 1 + 1) n w.heap.size (cut k O) (cut k E) (cutN k (partOf S)) ∧ Three wr w.heap.size ∧ Below w.heap.size w wr ∧ wr.heap.size = w.heap.size + 4) (fun i _ => n - (intOf i).toNat)
    case atStart => exact ⟨0, Nat.zero_le _, rfl, by simpa using regs_made (((w.alloc (.cells #[.slice none 0 0, .int .u64 0, .int .u64 0] 27)).alloc (.cells #[.slice none 0 0, .int .u64 0, .int .u64 0] 27)).alloc (.cells #[.slice none 0 0, .int .u64 0, .int .u64 0] 27)) n w.heap.size O E (partOf S), three_start w _ _, ((((Below.refl _ _).alloc (Nat.le_refl _) _).alloc (by simp <;> omega) _).alloc (by simp <;> omega) _).alloc (by simp <;> omega) _, by simp⟩
    case round =>
      obtain ⟨k, hk, rfl, hR, h3, hB, hz⟩ := hrel
      by_cases hlt : k < n
      · rcases hI with h0 | ⟨b, off, rfl, hc⟩
        · omega
        obtain ⟨x0, x1, x2⟩ := hc k hlt
        have y0 : wr.cell? ⟨b, off + k * 3, none⟩ = some (.int .u64 (O k)) := (hB.cell (p := ⟨b, off + k * 3, none⟩) (lt_of_cell x0)).trans x0
        have y1 : wr.cell? ⟨b, off + k * 3 + 1, none⟩ = some (.int .u64 (E k)) := (hB.cell (p := ⟨b, off + k * 3 + 1, none⟩) (lt_of_cell x1)).trans x1
        have y2 : wr.cell? ⟨b, off + k * 3 + 2, none⟩ = some (.int .u8 (S k)) := (hB.cell (p := ⟨b, off + k * 3 + 2, none⟩) (lt_of_cell x2)).trans x2
        have c0 := hR.c0 hlt
        have c1 := hR.c1 hlt
        have c2 := hR.c2 hlt
        have c3 := hR.c3 hlt
        have f0 := World.rowIs.frozen hR (k * 4)
        have f1 := World.rowIs.frozen hR (k * 4 + 1)
        have f2 := World.rowIs.frozen hR (k * 4 + 2)
        have f3 := World.rowIs.frozen hR (k * 4 + 3)
        have i0 : (0 : Int) ≤ (k : Int) := by omega
        have i1 : (k : Int) < n := by omega
        obtain ⟨s0, s1⟩ := bS k hlt
        have hp : S k % 4 = ((partOf S k : Nat) : Int) := by unfold partOf; omega
        have CP := fun W => pick_any (S k) (partOf S k) (ptr w.heap.size) W rfl hp s0 s1
        have RS := regs_set hR
        have e1 : ¬ b = w.heap.size + 1 + 1 + 1 := fun h => by have := lt_of_cell x0; simp at this; omega
        have e2 : ¬ w.heap.size + 1 + 1 + 1 = b := fun h => e1 h.symm
        clear x0 x1 x2 hc hp hmk hd bS
        go_wp2_with fail
        go_region_held3 (fun w' => w'.cell? ⟨b, off + k * 3, none⟩ = some (.int .u64 (O k)) ∧ w'.cell? ⟨b, off + k * 3 + 1, none⟩ = some (.int .u64 (E k)) ∧ w'.cell? ⟨b, off + k * 3 + 2, none⟩ = some (.int .u8 (S k))) (go_keep)
          (first | (go_at_call 4; refine (CP _).mono ?_; rintro e w' ⟨rfl, rfl⟩))
        go_wp2_with fail
        go_roundw
        case rel => exact ⟨k + 1, by omega, by go_num, World.rowIs.drew RS, three_below h3 (((((Below.refl (w.heap.size + 3) _).setCell (p := ⟨_, _, none⟩) (Nat.le_refl _) _).setCell (p := ⟨_, _, none⟩) (Nat.le_refl _) _).setCell (p := ⟨_, _, none⟩) (Nat.le_refl _) _).setCell (p := ⟨_, _, none⟩) (Nat.le_refl _) _).drew (Nat.le_refl _), ((((hB.setCell (p := ⟨_, _, none⟩) (Nat.le_add_right _ 3) _).setCell (p := ⟨_, _, none⟩) (Nat.le_add_right _ 3) _).setCell (p := ⟨_, _, none⟩) (Nat.le_add_right _ 3) _).setCell (p := ⟨_, _, none⟩) (Nat.le_add_right _ 3) _).drew, by simp [World.setCell, hz]⟩
        case measure => simp [intOf]; omega
      · obtain rfl : k = n := by omega
        have hR' := regs_whole hR
        have hC : ∀ i, partOf S i ≤ 3 := fun i => by unfold partOf; omega
        obtain ⟨C, hCC⟩ : ∃ C, C = partOf S := ⟨_, rfl⟩
        rw [← hCC] at hR' hC
        have bel : ∀ o, Below wr.heap.size wr (wr.alloc o) := fun o => (Below.refl _ _).alloc (Nat.le_refl _) o
        clear hR hmk hd hI bS hlt hCC
        go_upto_region 16 with (go_at_call 5; refine (cuts_any (w.heap.size + 4) (w.heap.size + 1 + 1 + 1) k w.heap.size d O E C z s r _ hn hd3 hC (Below.regs hR' (bel _)) (Below.three h3 (bel _)) (by simp [hz]) (by rw [← hz]; simp [go_sem]) (by rw [← hz]; simp [go_sem]) (by rw [← hz]; simp [go_sem])).mono ?_; rintro e w2 ⟨G, rfl, g0, g1, g2, hB2⟩)
        have R2 := Below.regs hR' ((bel _).trans (hB2.mono (bel _).size))
        have T2 := Below.three h3 ((bel _).trans (hB2.mono (bel _).size))
        have BB : Below w.heap.size w w2 := (hB.alloc hB.size _).trans (hB2.mono (by simp [hz] <;> omega))
        clear hR' h3 hB hz bel hB2
        go_wp2_with fail
        go_loopw [19, 20] (fun l i wx => ∃ j : Nat, j ≤ k ∧ i = .int .i64 (j : Int) ∧ l = .int .u64 (locTo E C r j) ∧ w2 = wx) (fun _ i _ => k - (intOf i).toNat)
        case atStart => exact ⟨0, Nat.zero_le _, rfl, rfl, rfl⟩
        case round =>
          obtain ⟨j, hj, rfl, rfl, rfl⟩ := hrel
          by_cases hlt : j < k
          · have c1 := R2.c1 hlt
            have c3 := R2.c3 hlt
            by_cases hz0 : C j = 0
            · have p0 : (ptr w.heap.size (C j)).isNone = true := by rw [hz0]; rfl
              by_cases hle : locTo E C r j < E j
              · have eL : locTo E C r (j + 1) = E j := by simp [locTo, hz0, hle]
                clear R2 T2 hz0
                go_wp2_with fail
                go_roundw
                case rel => exact ⟨j + 1, by omega, by go_num, by rw [eL], by trivial⟩
                case measure => simp [intOf]; omega
              · have eL : locTo E C r (j + 1) = locTo E C r j := by simp [locTo, hz0, hle]
                clear R2 T2 hz0
                go_wp2_with fail
                go_roundw
                case rel => exact ⟨j + 1, by omega, by go_num, by rw [eL], by trivial⟩
                case measure => simp [intOf]; omega
            · have p0 : (ptr w.heap.size (C j)).isNone = false := ptr_isNone _ hz0
              have eL : locTo E C r (j + 1) = locTo E C r j := by simp [locTo, hz0]
              clear R2 T2 hz0
              go_wp2_with fail
              go_roundw
              case rel => exact ⟨j + 1, by omega, by go_num, by rw [eL], by trivial⟩
              case measure => simp [intOf]; omega
          · obtain rfl : j = k := by omega
            go_wp2_with fail
            go_loopw [21, 22, 23, 24, 25] (fun f i _ _ _ wx => ∃ l : Nat, l ≤ j ∧ i = .int .i64 (l : Int) ∧ f = .int .u64 z ∧ fstTo j O E C d s z l = (z, false) ∧ w2 = wx) (fun _ i _ _ _ _ => j - (intOf i).toNat)
            case atStart => exact ⟨0, Nat.zero_le _, rfl, rfl, rfl, rfl⟩
            case round =>
              obtain ⟨l, hl, rfl, rfl, hf, rfl⟩ := hrel
              by_cases hlt : l < j
              · have c0 := R2.c0 hlt
                have c3 := R2.c3 hlt
                by_cases hz0 : C l = 0
                · have p0 : (ptr w.heap.size (C l)).isNone = true := by rw [hz0]; rfl
                  have eF : fstTo j O E C d s z (l + 1) = (z, false) := by simp [fstTo, Good, hz0, hf]
                  clear R2 T2 hz0 hf
                  go_wp2_with fail
                  go_roundw
                  case rel => exact ⟨l + 1, by omega, by go_num, rfl, eF, by trivial⟩
                  case measure => simp [intOf]; omega
                · have p0 : (ptr w.heap.size (C l)).isNone = false := ptr_isNone _ hz0
                  go_wp2_with fail
                  go_loopw [23, 24] (fun rch q wx => ∃ m : Nat, m ≤ l ∧ q = .int .i64 (m : Int) ∧ rch = .int .u64 (endTo E s m) ∧ w2 = wx) (fun _ q _ => l - (intOf q).toNat)
                  case atStart => exact ⟨0, Nat.zero_le _, rfl, rfl, rfl⟩
                  case round =>
                    obtain ⟨m, hm, rfl, rfl, rfl⟩ := hrel
                    by_cases hml : m < l
                    · have d1 := R2.c1 (show m < j by omega)
                      by_cases hle : endTo E s m < E m
                      · have eE : endTo E s (m + 1) = E m := by simp [endTo, hle]
                        clear R2 T2 hf
                        go_wp2_with fail
                        go_roundw
                        case rel => exact ⟨m + 1, by omega, by go_num, by rw [eE], by trivial⟩
                        case measure => simp [intOf]; omega
                      · have eE : endTo E s (m + 1) = endTo E s m := by simp [endTo, hle]
                        clear R2 T2 hf
                        go_wp2_with fail
                        go_roundw
                        case rel => exact ⟨m + 1, by omega, by go_num, by rw [eE], by trivial⟩
                        case measure => simp [intOf]; omega
                    · obtain rfl : m = l := by omega
                      by_cases hlo : O m < endTo E s m
                      · have eF : fstTo j O E C d s z (m + 1) = (z, false) := by simp [fstTo, Good, hf, show ¬ endTo E s m ≤ O m by omega]
                        clear R2 T2 hf
                        go_wp2_with fail
                        go_roundw
                        case rel => exact ⟨m + 1, by omega, by go_num, rfl, eF, by trivial⟩
                        case measure => simp [intOf]; omega
                      · have hlo' : endTo E s m ≤ O m := by omega
                        have q := eqlPP (c := C m) (d := d) T2 (hC m) hd3
                        by_cases hdd : C m = d
                        · rw [decide_eq_true hdd] at q
                          by_cases hn1 : m + 1 < j
                          · have c3' := R2.c3 hn1
                            by_cases hz1 : C (m + 1) = 0
                            · have p1 : (ptr w.heap.size (C (m + 1))).isNone = true := by rw [hz1]; rfl
                              have eF : fstTo j O E C d s z (m + 1) = (z, false) := by simp [fstTo, Good, hf, hdd, hz1]
                              clear R2 T2 hf hdd hz1 hz0
                              go_wp2_with fail
                              go_roundw
                              case rel => exact ⟨m + 1, by omega, by go_num, rfl, eF, by trivial⟩
                              case measure => simp [intOf]; omega
                            · have p1 : (ptr w.heap.size (C (m + 1))).isNone = false := ptr_isNone _ hz1
                              have eF : fstTo j O E C d s z (m + 1) = (O m, true) := by simp [fstTo, Good, hf, hz0, hz1, hlo', hn1]
                              clear hdd hz1 hz0
                              have g0' : w2.cell? ⟨G, 0, none⟩ = some (.int .u64 (O m)) := by
                                have h1 := fstTo_stays (show (fstTo j O E C d s z (m + 1)).2 = true by rw [eF]) (j - (m + 1))
                                rw [show m + 1 + (j - (m + 1)) = j by omega] at h1
                                rw [g0, h1, eF]
                              clear g0 R2 T2 hf eF
                              go_wp2_with fail
                              go_ret
                              exact ⟨rfl, BB⟩
                          · have eF : fstTo j O E C d s z (m + 1) = (z, false) := by simp [fstTo, Good, hf, hdd, hn1]
                            clear R2 T2 hf hdd hz0
                            go_wp2_with fail
                            go_roundw
                            case rel => exact ⟨m + 1, by omega, by go_num, rfl, eF, by trivial⟩
                            case measure => simp [intOf]; omega
                        · rw [decide_eq_false hdd] at q
                          have eF : fstTo j O E C d s z (m + 1) = (O m, true) := by simp [fstTo, Good, hf, hz0, hdd, hlo']
                          clear hdd hz0
                          have g0' : w2.cell? ⟨G, 0, none⟩ = some (.int .u64 (O m)) := by
                            have h1 := fstTo_stays (show (fstTo j O E C d s z (m + 1)).2 = true by rw [eF]) (j - (m + 1))
                            rw [show m + 1 + (j - (m + 1)) = j by omega] at h1
                            rw [g0, h1, eF]
                          clear g0 R2 T2 hf eF
                          go_wp2_with fail
                          go_ret
                          exact ⟨rfl, BB⟩
              · obtain rfl : l = j := by omega
                have g0' : w2.cell? ⟨G, 0, none⟩ = some (.int .u64 z) := by rw [g0, hf]
                clear g0 R2 T2
                go_wp2_with fail
                go_ret
                exact ⟨rfl, BB⟩
end Go.Proofs.Ybulkbhwq
