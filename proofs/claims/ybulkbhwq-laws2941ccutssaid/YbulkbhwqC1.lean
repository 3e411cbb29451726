import Derived.Test.YbulkbhwqRows
import Derived.WalkKit
import Derived.ProofKit
import Derived.OpenShut
import Derived.Below
import Derived.WalkLawsBesides
import Derived.LaidEqlPtr
import Derived.Deep.Cut
import Derived.Deep.QuietTactic
import Derived.BigQuiet
import Derived.ChangeOld
import Derived.Deep.OwnRows
import Derived.WalkSmall
namespace Go.Proofs.Ybulkbhwq
open Go.RowKit Go.WideShapes

/-! ### The plain side -/
def endTo (E : Nat → Int) (s : Int) : Nat → Int
  | 0 => s
  | k + 1 => if endTo E s k < E k then E k else endTo E s k
def locTo (E : Nat → Int) (C : Nat → Nat) (s : Int) : Nat → Int
  | 0 => s
  | k + 1 => if C k = 0 then (if locTo E C s k < E k then E k else locTo E C s k) else locTo E C s k
def Good (n : Nat) (O E : Nat → Int) (C : Nat → Nat) (d : Nat) (s : Int) (i : Nat) : Prop :=
  C i ≠ 0 ∧ endTo E s i ≤ O i ∧ (C i ≠ d ∨ (i + 1 < n ∧ C (i + 1) ≠ 0))
instance (n O E C d s i) : Decidable (Good n O E C d s i) := by unfold Good; infer_instance
def fstTo (n : Nat) (O E : Nat → Int) (C : Nat → Nat) (d : Nat) (s z : Int) : Nat → Int × Bool
  | 0 => (z, false)
  | k + 1 => if (fstTo n O E C d s z k).2 = false ∧ Good n O E C d s k then (O k, true) else fstTo n O E C d s z k

theorem fstTo_stays {n O E C d s z k} (h : (fstTo n O E C d s z k).2 = true) (j : Nat) : fstTo n O E C d s z (k + j) = fstTo n O E C d s z k := by
  induction j with
  | zero => rfl
  | succ j ih => rw [← Nat.add_assoc, fstTo, ih, h]; simp

/-! ### Memory -/
def ptr (B : Nat) : Nat → Option Addr
  | 0 => none
  | c + 1 => some ⟨B + c, 0, none⟩
theorem ptr_nil (B : Nat) : ptr B 0 = none := rfl
theorem ptr_isNone0 (B : Nat) : (ptr B 0).isNone = true := rfl
theorem ptr_isNone (B : Nat) {c : Nat} (h : c ≠ 0) : (ptr B c).isNone = false := by cases c with | zero => exact absurd rfl h | succ c => rfl
def rc (B : Nat) (O E : Nat → Int) (C : Nat → Nat) (j : Nat) : Value :=
  if j % 4 = 0 then .int .u64 (O (j / 4)) else if j % 4 = 1 then .int .u64 (E (j / 4)) else if j % 4 = 2 then .int .i64 0 else .pointer (ptr B (C (j / 4)))
theorem rc0 (B O E C k) : rc B O E C (k * 4) = .int .u64 (O k) := by simp [rc]
theorem rc1 (B O E C k) : rc B O E C (k * 4 + 1) = .int .u64 (E k) := by
  have h1 : (k * 4 + 1) % 4 = 1 := by omega
  have h2 : (k * 4 + 1) / 4 = k := by omega
  simp [rc, h1, h2]
theorem rc2 (B O E C k) : rc B O E C (k * 4 + 2) = .int .i64 0 := by
  have h1 : (k * 4 + 2) % 4 = 2 := by omega
  simp [rc, h1]
theorem rc3 (B O E C k) : rc B O E C (k * 4 + 3) = .pointer (ptr B (C k)) := by
  have h1 : (k * 4 + 3) % 4 = 3 := by omega
  have h2 : (k * 4 + 3) / 4 = k := by omega
  simp [rc, h1, h2]
def Regs (w : World) (g n B : Nat) (O E : Nat → Int) (C : Nat → Nat) : Prop := w.rowIs g 33 (n * 4) (rc B O E C)
theorem Regs.c0 {w g n B O E C} (h : Regs w g n B O E C) {k : Nat} (hk : k < n) : w.cell? ⟨g, k * 4, none⟩ = some (.int .u64 (O k)) := by rw [World.rowIs.cell h (by omega), rc0]
theorem Regs.c1 {w g n B O E C} (h : Regs w g n B O E C) {k : Nat} (hk : k < n) : w.cell? ⟨g, k * 4 + 1, none⟩ = some (.int .u64 (E k)) := by rw [World.rowIs.cell h (by omega), rc1]
theorem Regs.c2 {w g n B O E C} (h : Regs w g n B O E C) {k : Nat} (hk : k < n) : w.cell? ⟨g, k * 4 + 2, none⟩ = some (.int .i64 0) := by rw [World.rowIs.cell h (by omega), rc2]
theorem Regs.c3 {w g n B O E C} (h : Regs w g n B O E C) {k : Nat} (hk : k < n) : w.cell? ⟨g, k * 4 + 3, none⟩ = some (.pointer (ptr B (C k))) := by rw [World.rowIs.cell h (by omega), rc3]

/-- The three parts lie in three blocks. -/
def Three (w : World) (B : Nat) : Prop := ∀ j, j < 3 → ∃ c, w.heap[B + j]? = some (.cells c 27 (0, 0))

theorem info27 : (Yba.prog.info? 27).map (·.size) = some 3 := by kernel_rfl
theorem eqIn24 {w : World} {B c d : Nat} (h : Three w B) (hc : c ≤ 3) (hd : d ≤ 3) (f : Nat) : (Op.equalIn (f + 1) 24 (.pointer (ptr B c)) (.pointer (ptr B d))).run Yba.prog w = .ok (decide (c = d)) w := by
  obtain ⟨j, hj, hs⟩ := Option.map_eq_some_iff.1 info27
  match c, d with
  | 0, 0 => simp [ptr, Op.equalIn, run_underlying Yba.underlying24]
  | 0, d + 1 => simp [ptr, Op.equalIn, run_underlying Yba.underlying24]
  | c + 1, 0 => simp [ptr, Op.equalIn, run_underlying Yba.underlying24]
  | c + 1, d + 1 =>
    by_cases e : c = d
    · subst e
      simp [ptr, Op.equalIn, run_underlying Yba.underlying24, sizeOf, typeInfo, hj, run_sameAddr_same]
    · obtain ⟨ca, ha⟩ := h c (by omega)
      obtain ⟨cb, hb⟩ := h d (by omega)
      simp [ptr, Op.equalIn, run_underlying Yba.underlying24, sizeOf, typeInfo, hj, hs, run_sameAddr_other w (a := ⟨B + c, 0, none⟩) (b := ⟨B + d, 0, none⟩) (fun h => e (Nat.add_left_cancel (congrArg Addr.block h))) ha hb, e]
theorem eq24 {w : World} {B c d : Nat} (h : Three w B) (hc : c ≤ 3) (hd : d ≤ 3) : (Op.equal 24 (.pointer (ptr B c)) (.pointer (ptr B d))).run Yba.prog w = .ok (decide (c = d)) w := eqIn24 h hc hd 9999
theorem eqlPP {w : World} {B c d : Nat} (h : Three w B) (hc : c ≤ 3) (hd : d ≤ 3) : (binOp .eql 24 (.pointer (ptr B c)) (.pointer (ptr B d))).run Yba.prog w = .ok (.bool (decide (c = d))) w := by
  simp only [binOp]; simp [eq24 h hc hd]
theorem neqPP {w : World} {B c d : Nat} (h : Three w B) (hc : c ≤ 3) (hd : d ≤ 3) : (binOp .neq 24 (.pointer (ptr B c)) (.pointer (ptr B d))).run Yba.prog w = .ok (.bool (!decide (c = d))) w := by
  simp only [binOp]; simp [eq24 h hc hd]

/-! ### pick -/
theorem pick_any (s : Int) (c : Nat) (p : Nat → Option Addr) (w : World) (h0 : p 0 = none) (hs : s % 4 = (c : Int)) (hs0 : 0 ≤ s) (hs1 : s ≤ 255) :
    Calls Yba.prog 4 #[.int .u8 s, .pointer (p 1), .pointer (p 2), .pointer (p 3)] w fun e w' => e = .returned (.pointer (p c)) ∧ w' = w := by
  have h4 : c < 4 := by omega
  rcases show c = 0 ∨ c = 1 ∨ c = 2 ∨ c = 3 by omega with rfl | rfl | rfl | rfl
  all_goals
    go_enter Yba.func4, Yba.ntmps4
    go_wp2
    go_ret
    first | exact ⟨rfl, rfl⟩ | exact ⟨by rw [h0]; rfl, rfl⟩

/-! ### cuts -/
theorem Below.three {w w' : World} {B : Nat} (h : Three w B) (hb : Below w.heap.size w w') : Three w' B := fun j hj => by
  obtain ⟨c, hc⟩ := h j hj
  refine ⟨c, ?_⟩
  have hlt : B + j < w.heap.size := by
    rcases Nat.lt_or_ge (B + j) w.heap.size with h' | h'
    · exact h'
    · simp [Array.getElem?_eq_none h'] at hc
  rw [hb.block _ hlt, hc]
theorem Below.regs {w w' : World} {g n B O E C} (h : Regs w g n B O E C) (hb : Below w.heap.size w w') : Regs w' g n B O E C := by
  obtain ⟨c, hc, h1, h2⟩ := h
  have hlt : g < w.heap.size := by
    rcases Nat.lt_or_ge g w.heap.size with h' | h'
    · exact h'
    · simp [Array.getElem?_eq_none h'] at hc
  exact ⟨c, by rw [hb.block _ hlt, hc], h1, h2⟩

set_option maxHeartbeats 1000000 in
theorem cuts_any (F g n B d : Nat) (O E : Nat → Int) (C : Nat → Nat) (z s r : Int) (w : World) (hn : n ≤ 1024) (hd : d ≤ 3) (hC : ∀ i, C i ≤ 3)
    (hR : Regs w g n B O E C) (h3 : Three w B) (hF : F < w.heap.size)
    (f1 : w.cell? ⟨F, 1, none⟩ = some (.int .u64 z)) (f10 : w.cell? ⟨F, 10, none⟩ = some (.int .u64 s)) (f11 : w.cell? ⟨F, 11, none⟩ = some (.int .u64 r)) :
    Calls Yba.prog 5 #[.pointer (some ⟨F, 0, none⟩), .slice (some ⟨g, 0, none⟩) n n, .pointer (ptr B d)] w fun e w' =>
      ∃ G, e = .returned (.slice (some ⟨G, 0, none⟩) 3 3) ∧ w'.cell? ⟨G, 0, none⟩ = some (.int .u64 (fstTo n O E C d s z n).1) ∧ w'.cell? ⟨G, 1, none⟩ = some (.int .u64 (locTo E C r n)) ∧ w'.cell? ⟨G, 2, none⟩ = some (.int .u64 z) ∧ Below w.heap.size w w' := by
  go_enter Yba.func5, Yba.ntmps5
  go_wp2_with fail
  go_quiet (fail)
  go_wp2_with fail
  go_loopw [7, 8, 9, 10, 27] (fun a b c e i wr => ∃ k : Nat, k ≤ n ∧ i = .int .i64 (k : Int) ∧ a = .int .u64 (fstTo n O E C d s z k).1 ∧ b = .bool (fstTo n O E C d s z k).2 ∧ c = .int .u64 (locTo E C r k) ∧ e = .int .u64 (endTo E s k) ∧ Below w.heap.size w wr) (fun _ _ _ _ i _ => n - (intOf i).toNat)
  case atStart => exact ⟨0, Nat.zero_le _, rfl, rfl, rfl, rfl, rfl, below_drewN (Below.refl _ _) nq⟩
  case round =>
    obtain ⟨k, hk, rfl, rfl, rfl, rfl, rfl, hB⟩ := hrel
    by_cases hlt : k < n
    · have R := Below.regs hR hB
      have c0 := R.c0 hlt
      have c1 := R.c1 hlt
      have c2 := R.c2 hlt
      have c3 := R.c3 hlt
      have hB1 := hB.alloc hB.size (.cells #[.int .u64 (O k), .int .u64 (E k), .int .i64 0, .pointer (ptr B (C k))] 33)
      have R1 := Below.regs hR hB1
      have T1 := Below.three h3 hB1
      have eE : endTo E s (k + 1) = if endTo E s k < E k then E k else endTo E s k := rfl
      by_cases hk0 : C k = 0
      · have p0 : (ptr B (C k)).isNone = true := by rw [hk0]; rfl
        have eF : fstTo n O E C d s z (k + 1) = fstTo n O E C d s z k := by simp [fstTo, Good, hk0]
        have eL : locTo E C r (k + 1) = if locTo E C r k < E k then E k else locTo E C r k := by simp [locTo, hk0]
        clear R R1 T1 hR h3 hk0
        go_wp2_with fail
        go_roundw
        case rel => exact ⟨k + 1, by omega, by go_num, by rw [eF], by rw [eF], by rw [eL], by rw [eE], hB1⟩
        case measure => simp [intOf]; omega
      · have p0 : (ptr B (C k)).isNone = false := ptr_isNone B hk0
        have eL : locTo E C r (k + 1) = locTo E C r k := by simp [locTo, hk0]
        have q := neqPP (c := C k) (d := d) T1 (hC k) hd
        cases hf : (fstTo n O E C d s z k).2 with
        | true =>
          have eF : fstTo n O E C d s z (k + 1) = fstTo n O E C d s z k := by simp [fstTo, hf]
          clear R R1 T1 hR h3
          go_wp2_with fail
          go_roundw
          case rel => exact ⟨k + 1, by omega, by go_num, by rw [eF], by rw [eF, hf], by rw [eL], by rw [eE], hB1⟩
          case measure => simp [intOf]; omega
        | false =>
          by_cases hle : endTo E s k ≤ O k
          · by_cases hdd : C k = d
            · by_cases hn1 : k + 1 < n
              · have c3' := R1.c3 hn1
                by_cases hz1 : C (k + 1) = 0
                · have p1 : (ptr B (C (k + 1))).isNone = true := by rw [hz1]; rfl
                  have eF : fstTo n O E C d s z (k + 1) = fstTo n O E C d s z k := by simp [fstTo, Good, hf, hdd, hz1]
                  rw [decide_eq_true hdd] at q
                  clear R R1 T1 hR h3 hdd hz1 hk0
                  go_wp2_with fail
                  go_roundw
                  case rel => exact ⟨k + 1, by omega, by go_num, by rw [eF], by rw [eF, hf], by rw [eL], by rw [eE], hB1⟩
                  case measure => simp [intOf]; omega
                · have p1 : (ptr B (C (k + 1))).isNone = false := ptr_isNone B hz1
                  have eF : fstTo n O E C d s z (k + 1) = (O k, true) := by simp [fstTo, Good, hf, hk0, hz1, hle, hn1]
                  rw [decide_eq_true hdd] at q
                  clear R R1 T1 hR h3 hdd hz1 hk0
                  go_wp2_with fail
                  go_roundw
                  case rel => exact ⟨k + 1, by omega, by go_num, by rw [eF], by rw [eF], by rw [eL], by rw [eE], hB1⟩
                  case measure => simp [intOf]; omega
              · have eF : fstTo n O E C d s z (k + 1) = fstTo n O E C d s z k := by simp [fstTo, Good, hf, hdd, hn1]
                rw [decide_eq_true hdd] at q
                clear R R1 T1 hR h3 hdd hk0
                go_wp2_with fail
                go_roundw
                case rel => exact ⟨k + 1, by omega, by go_num, by rw [eF], by rw [eF, hf], by rw [eL], by rw [eE], hB1⟩
                case measure => simp [intOf]; omega
            · have eF : fstTo n O E C d s z (k + 1) = (O k, true) := by simp [fstTo, Good, hf, hk0, hdd, hle]
              rw [decide_eq_false hdd] at q
              clear R R1 T1 hR h3 hdd hk0
              go_wp2_with fail
              go_roundw
              case rel => exact ⟨k + 1, by omega, by go_num, by rw [eF], by rw [eF], by rw [eL], by rw [eE], hB1⟩
              case measure => simp [intOf]; omega
          · have eF : fstTo n O E C d s z (k + 1) = fstTo n O E C d s z k := by simp [fstTo, Good, hf, hle]
            clear R R1 T1 hR h3
            go_wp2_with fail
            go_roundw
            case rel => exact ⟨k + 1, by omega, by go_num, by rw [eF], by rw [eF, hf], by rw [eL], by rw [eE], hB1⟩
            case measure => simp [intOf]; omega
    · obtain rfl : k = n := by omega
      have g1 : wr.cell? ⟨F, 1, none⟩ = some (.int .u64 z) := (hB.cell (p := ⟨F, 1, none⟩) hF).trans f1
      clear hR h3 f1 f10 f11
      go_wp2_with fail
      go_ret
      exact ⟨_, rfl, by simp [go_sem], by simp [go_sem], by simp [go_sem], hB.alloc hB.size _⟩
end Go.Proofs.Ybulkbhwq
