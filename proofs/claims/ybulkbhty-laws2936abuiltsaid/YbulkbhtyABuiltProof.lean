/-
  THE PROOF OF 'Rows.LawS2936ABuiltSaid': the frame by the kit's own program at this function's number and types; the walk is ours.
-/
import Derived.Test.YbulkbhtyA1
import Derived.Laws.IdiomStrings
import Derived.WalkKit
import Derived.ProofKit
import Derived.OpenShut
import Derived.ShutString
import Derived.ChangeOld
import Derived.Below
namespace Go.Proofs.Ybulkbhty.lawS2936ABuilt
open Go.ChangeShapes Go.WideShapes Go.ChangeAt Go.RowKit
open Go.ChangeMaps (open_string shut_string)
set_option linter.unusedVariables false

theorem own : ownKnob Yba.prog.godebug = none := by kernel_rfl
theorem laidOut : laidOutB Yba.prog = true := by kernel_rfl

/-- WHAT THE WALK IS TOLD OF A SLICE OF INTEGERS THAT CAME IN: it is nil; or it leads to a row of 'cap' cells, the numbers 'zs' (the first 'len' are its elements, the rest its spare room), each fitting its kind. -/
def IsRow (k : IntKind) (w : World) (a : Option Addr) (len cap : Nat) (zs : List Int) : Prop :=
  (a = none ∧ len = 0 ∧ cap = 0 ∧ zs = []) ∨
  ∃ x, a = some x ∧ len ≤ cap ∧ cap ≤ maxLen ∧ zs.length = cap ∧ (∀ i, i < zs.length → w.cell? (x.add i) = some (.int k (zs.getD i 0))) ∧ ∀ n ∈ zs, (Lit.int k n).wf = true

theorem info5 : (Yba.prog.info? 5).map (fun i => (i.zero, i.size, i.bytes)) = some (some (.int .u8 0), 1, 1) := by kernel_rfl
/-- The table of the law, a byte by its number. -/
def tab : Nat → UInt8
  | 0 => 32
  | 1 => 32
  | 2 => 9
  | 3 => 10
  | 4 => 13
  | 5 => 13
  | 6 => 120
  | 7 => 40
  | 8 => 42
  | _ => 45
theorem ix0 (w : World) : (Instr.index 9 (.string ⟨#[32, 32, 9, 10, 13, 13, 120, 40, 42, 45]⟩) (.int .i64 ((0 : Nat) : Int))).run Yba.prog w = .ok (.int .u8 ((tab 0).toNat : Int)) w := by kernel_rfl
theorem ix1 (w : World) : (Instr.index 9 (.string ⟨#[32, 32, 9, 10, 13, 13, 120, 40, 42, 45]⟩) (.int .i64 ((1 : Nat) : Int))).run Yba.prog w = .ok (.int .u8 ((tab 1).toNat : Int)) w := by kernel_rfl
theorem ix2 (w : World) : (Instr.index 9 (.string ⟨#[32, 32, 9, 10, 13, 13, 120, 40, 42, 45]⟩) (.int .i64 ((2 : Nat) : Int))).run Yba.prog w = .ok (.int .u8 ((tab 2).toNat : Int)) w := by kernel_rfl
theorem ix3 (w : World) : (Instr.index 9 (.string ⟨#[32, 32, 9, 10, 13, 13, 120, 40, 42, 45]⟩) (.int .i64 ((3 : Nat) : Int))).run Yba.prog w = .ok (.int .u8 ((tab 3).toNat : Int)) w := by kernel_rfl
theorem ix4 (w : World) : (Instr.index 9 (.string ⟨#[32, 32, 9, 10, 13, 13, 120, 40, 42, 45]⟩) (.int .i64 ((4 : Nat) : Int))).run Yba.prog w = .ok (.int .u8 ((tab 4).toNat : Int)) w := by kernel_rfl
theorem ix5 (w : World) : (Instr.index 9 (.string ⟨#[32, 32, 9, 10, 13, 13, 120, 40, 42, 45]⟩) (.int .i64 ((5 : Nat) : Int))).run Yba.prog w = .ok (.int .u8 ((tab 5).toNat : Int)) w := by kernel_rfl
theorem ix6 (w : World) : (Instr.index 9 (.string ⟨#[32, 32, 9, 10, 13, 13, 120, 40, 42, 45]⟩) (.int .i64 ((6 : Nat) : Int))).run Yba.prog w = .ok (.int .u8 ((tab 6).toNat : Int)) w := by kernel_rfl
theorem ix7 (w : World) : (Instr.index 9 (.string ⟨#[32, 32, 9, 10, 13, 13, 120, 40, 42, 45]⟩) (.int .i64 ((7 : Nat) : Int))).run Yba.prog w = .ok (.int .u8 ((tab 7).toNat : Int)) w := by kernel_rfl
theorem ix8 (w : World) : (Instr.index 9 (.string ⟨#[32, 32, 9, 10, 13, 13, 120, 40, 42, 45]⟩) (.int .i64 ((8 : Nat) : Int))).run Yba.prog w = .ok (.int .u8 ((tab 8).toNat : Int)) w := by kernel_rfl
theorem ix9 (w : World) : (Instr.index 9 (.string ⟨#[32, 32, 9, 10, 13, 13, 120, 40, 42, 45]⟩) (.int .i64 ((9 : Nat) : Int))).run Yba.prog w = .ok (.int .u8 ((tab 9).toNat : Int)) w := by kernel_rfl
theorem index_tab (j : Nat) (hj : j < 10) (w : World) : (Instr.index 9 (.string ⟨#[32, 32, 9, 10, 13, 13, 120, 40, 42, 45]⟩) (.int .i64 (j : Int))).run Yba.prog w = .ok (.int .u8 ((tab j).toNat : Int)) w := by
  match j, hj with
  | 0, _ => exact ix0 w
  | 1, _ => exact ix1 w
  | 2, _ => exact ix2 w
  | 3, _ => exact ix3 w
  | 4, _ => exact ix4 w
  | 5, _ => exact ix5 w
  | 6, _ => exact ix6 w
  | 7, _ => exact ix7 w
  | 8, _ => exact ix8 w
  | 9, _ => exact ix9 w

/-! ### THE WALK -/
set_option maxHeartbeats 1000000 in
theorem walk (a0 : Option Addr) (len0 cap0 : Nat) (z0 : List Int) (a1 : Int) (a2 : Bool) (w : World) (w0 : IsRow .u8 w a0 len0 cap0 z0) (w1 : (Lit.int .u32 a1).wf = true) :
    Calls Yba.prog 4 #[.slice a0 len0 cap0, .int .u32 a1, .bool a2] w fun e w' => e = .returned (.bool true) ∧ Below w.heap.size w w' := by
  obtain ⟨b0, b1⟩ := bounds_u32 w1
  by_cases hb : 4096 < len0
  · clear w0
    go_enter Yba.func4, Yba.ntmps4
    go_wp2
    go_ret
    exact ⟨rfl, Below.refl _ _⟩
  · have hmk := run_make_row' (P := Yba.prog) 25 5 (.int .u8 0) 1 Yba.underlying25 info5 rfl .i64 .i64 len0 (by omega) (by omega)
    go_enter Yba.func4, Yba.ntmps4
    go_wp2
    go_loopw [8] (fun i wr => ∃ k : Nat, k ≤ len0 ∧ i = .int .i64 (k : Int) ∧ (∃ T : Nat → UInt8, wr.rowIs w.heap.size 5 len0 (fun j => .int .u8 ((T j).toNat : Int))) ∧ Below w.heap.size w wr) (fun i _ => len0 - (intOf i).toNat)
    case atStart => exact ⟨0, Nat.zero_le _, rfl, ⟨fun _ => 0, (World.rowIs_made w _ len0 5).congr fun j _ => rfl⟩, (Below.refl _ _).alloc (Nat.le_refl _) _⟩
    case round =>
      obtain ⟨k, hk, rfl, ⟨T, hT⟩, hB⟩ := hrel
      by_cases hlt : k < len0
      · rcases w0 with ⟨_, h0, _⟩ | ⟨x, rfl, hl, hm, hz, hc, hwf⟩
        · omega
        have cx := hc k (by omega)
        obtain ⟨b, off, spot⟩ := x
        have hspot : spot = none := by simpa [Addr.add] using World.cell?_spot (hc 0 (by omega))
        subst hspot
        rw [add_plain] at cx
        have cx' : wr.cell? ⟨b, off + k, none⟩ = some (.int .u8 (z0.getD k 0)) := (hB.cell (p := ⟨b, off + k, none⟩) (by
          rcases Nat.lt_or_ge b w.heap.size with h' | h'
          · exact h'
          · simp [World.cell?, Array.getElem?_eq_none h'] at cx)).trans cx
        have hw := hwf (z0.getD k 0) (by simp [List.getD, List.getElem?_eq_getElem (show k < z0.length by omega)])
        obtain ⟨z, hzz⟩ : ∃ z, z = z0.getD k 0 := ⟨_, rfl⟩
        rw [← hzz] at cx' hw
        obtain ⟨u0, u1⟩ := bounds_u8 hw
        obtain ⟨j, hj⟩ : ∃ j : Nat, z % 10 = (j : Int) := ⟨(z % 10).toNat, by omega⟩
        have hj10 : j < 10 := by omega
        have hix := index_tab j hj10
        have cT := hT.cell hlt
        have fT := hT.frozen k
        have RT : (wr.setCell ⟨w.heap.size, k, none⟩ (.int .u8 ((tab j).toNat : Int))).rowIs w.heap.size 5 len0 (fun i => .int .u8 (((if i = k then tab j else T i)).toNat : Int)) := (hT.set k _).congr fun i _ => by split <;> rfl
        have BT := hB.setCell (p := ⟨w.heap.size, k, none⟩) (Nat.le_refl _) (.int .u8 ((tab j).toNat : Int))
        clear hc hwf cx hT hB hzz
        go_wp2
        go_roundw
        case rel => exact ⟨k + 1, by omega, by go_num, ⟨_, RT⟩, BT⟩
        case measure => simp [intOf]; omega
      · obtain rfl : k = len0 := by omega
        obtain ⟨s, hsz, hconv⟩ : ∃ s : ByteArray, s.size = k ∧ (convert 25 9 (.slice (some ⟨w.heap.size, 0, none⟩) k k)).run Yba.prog wr = .ok (.string s) wr := by
          have hlen : ((List.range k).map T).length = k := by simp
          have h := run_convert_bytes_back (P := Yba.prog) wr 25 9 5 ⟨w.heap.size, 0, none⟩ k ((List.range k).map T) Yba.underlying25 Yba.underlying5 Yba.underlying9 (fun j hj => by
            rw [hlen] at hj
            rw [add_plain]
            have := hT.cell hj
            simpa using this)
          rw [hlen] at h
          exact ⟨_, by show ((List.range k).map T).toArray.size = k; simp, h⟩
        obtain ⟨p, hp⟩ : ∃ p : Nat, a1 % ((s.size : Int) + 1) = (p : Int) := ⟨(a1 % ((s.size : Int) + 1)).toNat, by have := Int.emod_nonneg a1 (show ((s.size : Int) + 1) ≠ 0 by omega); omega⟩
        have hp1 : p ≤ s.size := by have := Int.emod_lt_of_pos a1 (show 0 < ((s.size : Int) + 1) by omega); omega
        have hs4 : s.size ≤ 4096 := by omega
        have CK := fun W => check_any s p a2 W (by omega) hp1
        clear hT w0 hmk hsz
        go_wp2_with (go_at_call 7; refine (CK _).mono ?_; rintro e w2 ⟨rfl, hB2⟩)
        go_ret
        exact ⟨rfl, hB.trans (hB2.mono hB.size)⟩

/-! ### THE ROW's STEP: WRITTEN OUT: LEAVE IT -/
set_option maxRecDepth 100000 in
theorem lifted (os : Os) (started : os.Started) (H : Type) (enc : TypeId × Value → H) :
    ReturnsInHanded {} Yba.checked os 4 .any (Rows.lawS2936ABuiltSpec.pre6 enc Yba.prog Yba.f4 Rows.lawS2936ABuiltRow.domain false) (Rows.lawS2936ABuiltSpec.post enc Yba.prog Yba.f4 false true false false) := by
  refine returnsInHanded_of_change (C := Yba.checked) own started (by kernel_rfl) Yba.func4
    (ChangeSpec.witness6 (enc := enc) (C := Yba.checked) false ⟨#[], #[.slice none 0 0, .int .u32 0, .bool false], []⟩ 8 (by kernel_rfl) (by kernel_rfl) (by kernel_rfl) (by kernel_rfl)) ?_
  intro W base args ds gs before hval0 hW hcnd _
  have hval : ∀ (j : Nat) t v, Yba.f4.params[j]? = some t → args[j]? = some v → Value.okWide Yba.prog W .any base t v := hval0
  have hW' := hW
  obtain ⟨p, q, hA0, hV, rfl, hfz, hnd⟩ := hW
  have hA : DataW.TrodAll enc Yba.prog W 0 (fun _ => true) true Yba.f4.params.toList args.toList ds p := hA0
  rw [Yba.params4] at hA hval
  obtain ⟨v0, vs0, d0, ds0, p0, q0, hargs, rfl, rfl, h0, r0⟩ := trodAll_cons hA
  obtain ⟨v1, vs1, d1, ds1, p1, q1, rfl, rfl, rfl, h1, r1⟩ := trodAll_cons r0
  obtain ⟨v2, vs2, d2, ds2, p2, q2, rfl, rfl, rfl, h2, r2⟩ := trodAll_cons r1
  obtain ⟨rfl, rfl, rfl⟩ := trodAll_nil r2
  obtain rfl : args = #[v0, v1, v2] := by cases args; simp_all
  obtain ⟨rfl, rfl⟩ := trodVars_none hV
  obtain ⟨a0, len0, cap0, rfl⟩ := okWide_slice Yba.underlying25 (hval 0 25 v0 rfl rfl)
  have k0 := h0
  have lt0 : ∀ x ∈ p0, x.block < W.heap.size := by obtain ⟨m, hm⟩ := k0; exact DataW.trod_lt m _ _ _ hm
  obtain ⟨z0, w0⟩ : ∃ zs, IsRow .u8 W a0 len0 cap0 zs := by
    obtain ⟨fuel, hf⟩ := h0
    rcases open_ints Yba.underlying25 Yba.underlying5 (by kernel_rfl) hf with ⟨hcs, _⟩ | ⟨x, l, c, zs, hcs, _, hl, hm, hz, _, hcell, hwz⟩
    · simp [Value.cells] at hcs
      obtain ⟨rfl, rfl, rfl⟩ := hcs
      exact ⟨[], .inl ⟨rfl, rfl, rfl, rfl⟩⟩
    · simp [Value.cells] at hcs
      obtain ⟨rfl, rfl, rfl⟩ := hcs
      exact ⟨zs, .inr ⟨_, rfl, hl, hm, by simpa using hz, hcell, hwz⟩⟩
  obtain ⟨a1, rfl, rfl, rfl, w1⟩ := open_int Yba.underlying22 (hval 1 22 v1 rfl rfl) h1
  obtain ⟨a2, rfl, rfl, rfl⟩ := open_bool Yba.underlying4 (hval 2 4 v2 rfl rfl) h2
  clear hA0 hval0
  refine (walk a0 len0 cap0 z0 a1 a2 W w0 w1).mono fun e W' ⟨he, bel⟩ => ?_
  subst he
  exact ⟨_, rfl, _, _, _, [], _, [], hW', trodAll_mk1 (shut_bool Yba.underlying4 _), (trodAll_cons_mk (Below.trod laidOut (by kernel_rfl) (of_decide_eq_true (by kernel_rfl)) k0 bel lt0) (trodAll_cons_mk (shut_int Yba.underlying22 w1) (trodAll_cons_mk (shut_bool Yba.underlying4 _) trodAll_mk0))), rfl, bel.frame _, fun h => by cases h⟩

theorem over : Rows.lawS2936ABuiltRow.holds Yba.pinned (OpenSpec.ofChange Rows.lawS2936ABuiltSpec) :=
  OpenClaim.holds_of_wide 4 Yba.f4 rfl rfl rfl rfl rfl rfl rfl ⟨rfl, rfl, rfl, rfl, rfl⟩ rfl rfl rfl rfl rfl (by kernel_rfl) Yba.func4 (by kernel_rfl)
    (of_decide_eq_true (by kernel_rfl)) (by unfold Func.isWrapper; first | (rw [if_pos (by decide +kernel)]; kernel_rfl) | (rw [if_neg (by decide +kernel)]; exact ⟨rfl, rfl⟩))
    (fun os started H enc _ => lifted os started H enc)

/-- ████ THE STATEMENT ████ -/
theorem proved : Rows.LawS2936ABuiltSaid := over
#print axioms proved
end Go.Proofs.Ybulkbhty.lawS2936ABuilt
