import Derived.Test.YbulkbhtyFmtCards
import Derived.Stop.CallBack
import Derived.Stop.IfaceNil
import Derived.Stop.FmtTextLaws
import GoSem.ClaimData
import Derived.WalkKit
import Derived.ProofKit
import Derived.OpenShut
import Derived.Below
import Derived.WalkLawsBesides
import Derived.Laws.IdiomStrings
import Derived.Deep.Cut
import Derived.Deep.QuietTactic
import Derived.BigQuiet
import Derived.Deep.RegionHeld3
import Derived.WalkSmall
import Derived.Lib.SliceRun
import Derived.Deep.OwnRows
namespace Go.Proofs.YbulkbhtyFmt
open Go.RowKit Go.WideShapes Go.Extern.Stop Go.Stop Go.Extern

/-! ### fmt's stop: the closed facts -/
@[go_sem] theorem call12 (args : Array Value) (w : World) : (callFunc 12 args).run Ybaf.prog w = ((FmtStop.errorf #[9, 39] #[26] args).run Ybaf.prog w).andThen fun v w' => .ok (.value v) w' :=
  run_callFunc_extern Ybaf.func12 (by kernel_rfl) (by kernel_rfl) (by kernel_rfl) (by kernel_rfl) args w
@[go_sem] theorem guard (name : String) (w : World) : (FmtStop.guard name).run Ybaf.prog w = .ok () w := by kernel_rfl
@[go_sem] theorem fmt0 : FmtStop.printed? ⟨#[108, 111, 99, 107, 58, 32, 110, 111, 32, 112, 111, 108, 105, 99, 121, 32, 37, 100]⟩ 1 = some [(0, 100, false)] := by kernel_rfl
@[go_sem] theorem fmt0r (w : World) : (FmtDoors.printed ⟨#[108, 111, 99, 107, 58, 32, 110, 111, 32, 112, 111, 108, 105, 99, 121, 32, 37, 100]⟩ 1).run Ybaf.prog w = .ok [(0, 100, false)] w := by kernel_rfl
def shape5 : List UInt8 := [6, 5, 0, 0, 0, 0, 0, 0, 0, 117, 105, 110, 116, 56]
@[go_sem] theorem op5_100 (name : String) (x : Int) (w : World) : (FmtStop.operand name false 100 false (.iface 5 (.int .u8 x))).run Ybaf.prog w = .ok (shape5, Go.Extern.Stop.digits 8 (x % 2 ^ 64).toNat) w := by kernel_rfl
@[go_sem] theorem op5_100w (name : String) (x : Int) (w : World) : (FmtStop.operand name true 100 false (.iface 5 (.int .u8 x))).run Ybaf.prog w = .ok (shape5, Go.Extern.Stop.digits 8 (x % 2 ^ 64).toNat) w := by kernel_rfl
@[go_sem] theorem strict5 (name : String) (x : Int) (w : World) : (FmtStop.strict name (.iface 5 (.int .u8 x))).run Ybaf.prog w = .ok (shape5, Go.Extern.Stop.digits 8 (x % 2 ^ 64).toNat) w := by kernel_rfl
@[go_sem] theorem ptr49 (w : World) : (FmtStop.ptrTo "errors.errorString").run Ybaf.prog w = .ok 49 w := by kernel_rfl
@[go_sem] theorem elem49 (w : World) : (elemOf 49).run Ybaf.prog w = .ok 51 w := by kernel_rfl

theorem errorf_d (F : Interp) (x : Int) (blk : Nat) (w : World) (hF : F.answers w.tape) (hc0 : w.cell? ⟨blk, 0, none⟩ = some (.iface 5 (.int .u8 x))) :
    Calls Ybaf.prog 9 #[.string ⟨#[108, 111, 99, 107, 58, 32, 110, 111, 32, 112, 111, 108, 105, 99, 121, 32, 37, 100]⟩, .slice (some ⟨blk, 0, none⟩) 1 1] w fun e w' => ∃ v, e = .returned (.iface 49 v) ∧ Below w.heap.size w w' := by
  have hF' : ∀ i name reading k range, w.tape i (.extern (word name reading k) range) = F name reading k := hF
  go_enter Ybaf.func9, Ybaf.ntmps9
  go_wp2
  go_ret
  exact ⟨_, rfl, ((Below.refl _ _).alloc (Nat.le_refl _) _).drew⟩

/-! ### check -/
theorem check_bad (F : Interp) (x : Int) (w : World) (hF : F.answers w.tape) (h3 : 3 ≤ x) :
    Calls Ybaf.prog 11 #[.int .u8 x] w fun e w' => ∃ v, e = .returned (.iface 49 v) ∧ Below w.heap.size w w' := by
  go_enter Ybaf.func11, Ybaf.ntmps11
  go_wp2_with (go_at_call 9; refine (errorf_d F x _ _ (by exact hF) (by rw [World.cell?_alloc_at (hn := by simp)]; rfl)).mono ?_; rintro e w2 ⟨v, rfl, hB⟩)
  go_ret
  exact ⟨v, rfl, ((Below.refl _ _).alloc (Nat.le_refl _) _).trans (hB.mono (by simp))⟩
theorem check_good (x : Int) (w : World) (h3 : x < 3) :
    Calls Ybaf.prog 11 #[.int .u8 x] w fun e w' => e = .returned .nilIface ∧ w' = w := by
  go_enter Ybaf.func11, Ybaf.ntmps11
  go_wp2
  go_ret
  exact ⟨rfl, rfl⟩

/-! ### The names -/
def nameOf : Nat → ByteArray
  | 0 => ⟨#[100, 101, 116, 101, 99, 116]⟩
  | 1 => ⟨#[119, 97, 105, 116, 45, 100, 105, 101]⟩
  | _ => ⟨#[119, 111, 117, 110, 100, 45, 119, 97, 105, 116]⟩
def Names (w : World) : Prop := ∀ i, i < 3 → w.cell? ⟨0, i, none⟩ = some (.string (nameOf i))

theorem marshal_bad (F : Interp) (x : Int) (w : World) (hF : F.answers w.tape) (h3 : 3 ≤ x) :
    Calls Ybaf.prog 7 #[.int .u8 x] w fun e w' => ∃ v, e = .returned (.tuple #[.slice none 0 0, .iface 49 v]) ∧ Below w.heap.size w w' := by
  go_enter Ybaf.func7, Ybaf.ntmps7
  go_wp2_with (go_at_call 11; refine (check_bad F x _ hF h3).mono ?_; rintro e w2 ⟨v, rfl, hB⟩)
  go_ret2
  exact ⟨v, rfl, hB⟩

theorem name_any (x : Nat) (w : World) (h : x < 3) : Calls Ybaf.prog 5 #[.int .i64 (x : Int)] w fun e w' => e = .returned (.string (nameOf x)) ∧ w' = w := by
  rcases show x = 0 ∨ x = 1 ∨ x = 2 by omega with rfl | rfl | rfl
  all_goals
    go_enter Ybaf.func5, Ybaf.ntmps5
    go_wp2
    go_ret
    exact ⟨rfl, rfl⟩

theorem names_ne {i j : Nat} (hi : i < 3) (hj : j < 3) (h : i ≠ j) : ((nameOf i).toList == (nameOf j).toList) = false := by
  match i, j, hi, hj, h with
  | 0, 1, _, _, _ => decide +kernel
  | 0, 2, _, _, _ => decide +kernel
  | 1, 0, _, _, _ => decide +kernel
  | 1, 2, _, _, _ => decide +kernel
  | 2, 0, _, _, _ => decide +kernel
  | 2, 1, _, _, _ => decide +kernel
  | 0, 0, _, _, h => exact absurd rfl h
  | 1, 1, _, _, h => exact absurd rfl h
  | 2, 2, _, _, h => exact absurd rfl h

theorem index_any (v : Nat) (w : World) (h : v < 3) (hN : Names w) : Calls Ybaf.prog 8 #[.slice (some ⟨0, 0, none⟩) 3 3, .string (nameOf v)] w fun e w' => e = .returned (.int .i64 (v : Int)) ∧ w' = w := by
  go_enter Ybaf.func8, Ybaf.ntmps8
  go_wp2
  go_loopw [5, 8] (fun _ i wx => ∃ k : Nat, k ≤ v ∧ i = .int .i64 (k : Int) ∧ w = wx) (fun _ i _ => v - (intOf i).toNat)
  case atStart => exact ⟨0, Nat.zero_le _, rfl, rfl⟩
  case round =>
    obtain ⟨k, hk, rfl, rfl⟩ := hrel
    have nk := hN k (by omega)
    have hk3 : k < 3 := by omega
    have hki : (k : Int) < 3 := by omega
    by_cases hlt : k < v
    · have hne := names_ne h hk3 (by omega)
      go_wp2
      go_roundw
      case rel => exact ⟨k + 1, by omega, by go_num, by trivial⟩
      case measure => simp [intOf]; omega
    · obtain rfl : k = v := by omega
      go_wp2
      go_ret
      exact ⟨rfl, rfl⟩

def Bytes (w : World) (g x : Nat) : Prop := ∀ j (hj : j < (nameOf x).data.toList.length), w.cell? ⟨g, j, none⟩ = some (.int .u8 (((nameOf x).data.toList[j]'hj).toNat : Int))
theorem Bytes.conv {w : World} {g x : Nat} (h : Bytes w g x) (c : Nat) : (convert 22 9 (.slice (some ⟨g, 0, none⟩) (nameOf x).size c)).run Ybaf.prog w = .ok (.string (nameOf x)) w := by
  have := run_convert_bytes_back (P := Ybaf.prog) w 22 9 5 ⟨g, 0, none⟩ c (nameOf x).data.toList Ybaf.underlying22 Ybaf.underlying5 Ybaf.underlying9 (fun j hj => by rw [add_plain]; simpa using h j hj)
  simpa using this
theorem Bytes.mono {w w' : World} {g x B : Nat} (h : Bytes w g x) (hb : Below B w w') (hg : g < B) : Bytes w' g x := fun j hj => (hb.cell (p := ⟨g, j, none⟩) hg).trans (h j hj)

theorem marshal_good (x : Nat) (w : World) (h3 : x < 3) (hN : Names w) :
    Calls Ybaf.prog 7 #[.int .u8 (x : Int)] w fun e w' => ∃ g c, e = .returned (.tuple #[.slice (some ⟨g, 0, none⟩) (nameOf x).size c, .nilIface]) ∧ Bytes w' g x ∧ g < w'.heap.size ∧ w.heap.size ≤ g ∧ Below w.heap.size w w' := by
  have n0 := hN x h3
  have h3' : (x : Int) < 3 := by omega
  have cv := run_bytes_of_string (P := Ybaf.prog) w 9 22 5 (nameOf x) Ybaf.underlying9 Ybaf.underlying22 Ybaf.underlying5
  generalize grownCap w (nameOf x).size 0 5 = c at cv
  go_enter Ybaf.func7, Ybaf.ntmps7
  go_wp2_with (go_at_call 11; refine (check_good x _ h3').mono ?_; rintro e w2 ⟨rfl, rfl⟩)
  go_ret2
  refine ⟨_, c, rfl, ?_, by simp, Nat.le_refl _, ((Below.refl _ _).drew).alloc (Nat.le_refl _) _⟩
  intro j hj
  have : j < (nameOf x).data.size := by simpa using hj
  rw [World.cell?_drew]
  simp only [World.cell?]
  rw [Deep.blk_alloc_new]
  simp [bytesRow, Array.getElem?_append, show j < (nameOf x).size from this]

theorem unmarshal_any (x q g c : Nat) (o : Int) (w : World) (h3 : x < 3) (hN : Names w) (hB : Bytes w g x) (hq : w.cell? ⟨q, 0, none⟩ = some (.int .u8 o)) (hf : w.frozen? ⟨q, 0, none⟩ = false) :
    Calls Ybaf.prog 6 #[.pointer (some ⟨q, 0, none⟩), .slice (some ⟨g, 0, none⟩) (nameOf x).size c] w fun e w' => e = .returned .nilIface ∧ w'.cell? ⟨q, 0, none⟩ = some (.int .u8 (x : Int)) ∧ Below q w w' := by
  have cv := fun n => (show Bytes (w.drewN n) g x from hB).conv c
  have hIx := fun W h => index_any x W h3 h
  go_enter Ybaf.func6, Ybaf.ntmps6
  go_wp2_with fail
  go_quiet ((go_at_call 8; (refine (hIx _ ?_).mono ?_; exact hN; rintro e w2 ⟨rfl, rfl⟩; exact ⟨rfl, _, rfl⟩)))
  go_wp2_with fail
  go_ret
  exact ⟨rfl, by simp [go_sem, hq], (below_drewN (Below.refl _ _) nq).setCell (p := ⟨q, 0, none⟩) (Nat.le_refl _) _⟩

set_option maxHeartbeats 1000000 in
theorem law_bad (F : Interp) (x y : Int) (w : World) (hF : F.answers w.tape) (h3 : 3 ≤ x) :
    Calls Ybaf.prog 4 #[.int .u8 x, .int .u8 y] w fun e w' => e = .returned (.bool true) ∧ Below w.heap.size w w' := by
  go_enter Ybaf.func4, Ybaf.ntmps4
  have hsn := fun w' a n c n' c' => Lib.run_eql_slice_nil (P := Ybaf.prog) w' 22 5 a n c n' c' Ybaf.underlying22
  go_wp2_with (go_at_call 7; refine (marshal_bad F x _ hF h3).mono ?_; rintro e w2 ⟨v, rfl, hB⟩)
  go_ret
  exact ⟨rfl, hB⟩

set_option maxHeartbeats 1000000 in
theorem law_good (x : Nat) (y : Int) (w : World) (h3 : x < 3) (hN : Names w) (h0 : 0 < w.heap.size) :
    Calls Ybaf.prog 4 #[.int .u8 (x : Int), .int .u8 y] w fun e w' => e = .returned (.bool true) ∧ Below w.heap.size w w' := by
  have h3' : (x : Int) < 3 := by omega
  go_enter Ybaf.func4, Ybaf.ntmps4
  go_upto_region 5 with (go_at_call 7; refine (marshal_good x _ h3 hN).mono ?_; rintro e w2 ⟨g, c, rfl, hb, hg, hg0, hB⟩)
  have cv := fun n => (show Bytes (w2.drewN n) g x from hb).conv c
  have hIx := fun W => name_any x W h3
  go_quiet ((go_at_call 5; (refine (hIx _).mono ?_; rintro e w2 ⟨rfl, rfl⟩; exact ⟨rfl, _, rfl⟩)))
  have hB3 : Below w.heap.size w (w2.drewN nq) := below_drewN hB nq
  have hb3 : Bytes (w2.drewN nq) g x := hb
  have hg3 : g < (w2.drewN nq).heap.size := hg
  clear cv hIx hb hg hB
  generalize w2.drewN nq = W at *
  have hB1 := (Below.refl W.heap.size W).alloc (Nat.le_refl _) (.cells #[.int .u8 y] 24)
  have hW0 : 0 < W.heap.size := by have := hB3.size; omega
  have hN1 : Names W := fun i hi => (hB3.cell (p := ⟨0, i, none⟩) h0).trans (hN i hi)
  have hN2 : Names (W.alloc (.cells #[.int .u8 y] 24)) := fun i hi => (hB1.cell (p := ⟨0, i, none⟩) hW0).trans (hN1 i hi)
  have hb1 := hb3.mono hB1 hg3
  have q1 : (W.alloc (.cells #[.int .u8 y] 24)).cell? ⟨W.heap.size, 0, none⟩ = some (.int .u8 y) := by rw [World.cell?_alloc_at (hn := by simp)]; rfl
  have q2 : (W.alloc (.cells #[.int .u8 y] 24)).frozen? ⟨W.heap.size, 0, none⟩ = false := by simp [go_sem]
  clear hN hN1 hb3
  go_wp2_with (go_at_call 6; refine (unmarshal_any x W.heap.size g c y _ h3 hN2 hb1 q1 q2).mono ?_; rintro e w3 ⟨rfl, hc, hB4⟩)
  go_ret
  exact ⟨rfl, hB3.trans ((hB1.trans hB4).mono hB3.size)⟩
end Go.Proofs.YbulkbhtyFmt
