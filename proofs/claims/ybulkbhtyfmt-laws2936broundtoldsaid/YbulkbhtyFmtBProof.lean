import Derived.Test.YbulkbhtyFmtB1
import Derived.Test.YbulkbhtyFmtTie
import Derived.ProofKit
import Derived.Stop.JoinedAt
import Derived.Stop.JoinedTold
import Derived.Stop.LaidErr
import Derived.SevenToldRow
import Derived.SevenTiedAt
import Derived.OpenShut
import Derived.OpenVars
import Derived.Laws.IdiomArrays
namespace Go.Proofs.YbulkbhtyFmt
open Go.ChangeShapes Go.WideShapes Go.ChangeAt Go.RowKit Go.Kit
open Go.Extern.Stop Go.Stop Go.Extern

theorem own : ownKnob Ybaf.prog.godebug = none := by kernel_rfl
theorem laidOut : laidOutB Ybaf.pinned.checked.prog = true := by kernel_rfl
theorem stops : Ybaf.pinned.checked.prog.stops = ["fmt.errorf"] := by kernel_rfl
theorem stopKnobs : Ybaf.pinned.checked.prog.stopKnobs = [] := by kernel_rfl
theorem quiet (os : Os) : Stop.quiet Ybaf.pinned.checked.prog os := by
  intro k hk
  rw [stopKnobs] at hk
  cases hk
theorem gP : Ybaf.prog.globalNamed "example.com/interlock/interlock/lock.policyNames" = some 0 := by kernel_rfl
theorem gPType : (Ybaf.prog.globals[0]?).map (·.type) = some 35 := by kernel_rfl
theorem cells9 : Ybaf.prog.cellsOf 9 = 1 := by kernel_rfl
theorem cells35 : Ybaf.prog.cellsOf 35 = 3 := by kernel_rfl

noncomputable def laidWorld (os : Os) : World :=
  let w0 := World.holding Ybaf.prog os ⟨#[], #[], []⟩
  { w0 with heap := w0.heap.modify 0 fun
      | .cells _ t frozen => .cells #[.string (nameOf 0), .string (nameOf 1), .string (nameOf 2)] t frozen
      | o => o }
theorem laid_met (os : Os) (args : Array Value) : laidMet Ybaf.prog Rows.lawS2936BRoundRow.laid ((laidWorld os).forCall (fun _ _ => 0) ⟨#[], args, []⟩).memory :=
  laidMet_of_run (ps := [.cell 0 0, .cell 0 1, .cell 0 2]) 8 (by kernel_rfl) (by kernel_rfl) (by kernel_rfl)

theorem list_three {α : Type} {l : List α} (h : l.length = 3) : ∃ a b c, l = [a, b, c] := by
  match l, h with
  | [a, b, c], _ => exact ⟨a, b, c, rfl⟩

/-- What the cell 'laid' gives: the three names lie in the variable. -/
theorem names_of_laid {W : World} (h : laidMet Ybaf.prog Rows.lawS2936BRoundRow.laid W) : Names W := by
  obtain ⟨ps, ⟨g0, t0, cs0, f0, p0, q0, hg0, ht0, hv0, hd0, _, _⟩, _, _⟩ := h
  obtain rfl := Option.some.inj (gP.symm.trans hg0)
  obtain rfl := Option.some.inj (gPType.symm.trans ht0)
  obtain ⟨xs, m, _, _, hlen, _, _⟩ := DataW.trod_array Ybaf.underlying35 hd0
  rw [cells35] at hlen
  obtain ⟨c0, c1, c2, hcs⟩ := list_three hlen
  obtain ⟨l0⟩ := cs0
  simp only at hcs
  subst hcs
  obtain ⟨y0, y1, y2, n, e, e0, e1, e2⟩ := trod_array3 Ybaf.underlying35 cells9 hd0
  obtain ⟨s0, q0', rfl, _⟩ := DataW.trod_string Ybaf.underlying9 e0
  obtain ⟨s1, q1', rfl, _⟩ := DataW.trod_string Ybaf.underlying9 e1
  obtain ⟨s2, q2', rfl, _⟩ := DataW.trod_string Ybaf.underlying9 e2
  simp at q0' q1' q2'
  subst q0' q1' q2'
  simp [Rows.laid_example_com_interlock_interlock_lock_policyNames] at e
  obtain ⟨⟨b0, b1, b2⟩, _⟩ := e
  have k0 : s0 = nameOf 0 := by
    apply ByteArray.ext; apply Array.toList_inj.1; rw [← b0]; rfl
  have k1 : s1 = nameOf 1 := by
    apply ByteArray.ext; apply Array.toList_inj.1; rw [← b1]; rfl
  have k2 : s2 = nameOf 2 := by
    apply ByteArray.ext; apply Array.toList_inj.1; rw [← b2]; rfl
  subst k0 k1 k2
  intro i hi
  match i, hi with
  | 0, _ => simpa using World.var?_cell gP hv0 0
  | 1, _ => simpa using World.var?_cell gP hv0 1
  | 2, _ => simpa using World.var?_cell gP hv0 2

set_option maxRecDepth 100000 in
set_option maxHeartbeats 1600000 in
theorem t_lifted (os : Os) (started : os.Started) (H : Type) (enc : TypeId × Value → H) :
    ReturnsInTold none {} Ybaf.checked os 4 .any Input.okWide ((OpenSpec.ofChange Rows.lawS2936BRoundSpec).preRow enc Ybaf.prog Ybaf.f4 [] false Rows.lawS2936BRoundRow.laid) (fun F => ((OpenSpec.ofChange Rows.lawS2936BRoundSpec).at F.told).post enc Ybaf.prog Ybaf.f4 false true false false) (aloneAtReturn Ybaf.prog) nothingAlways := by
  refine returnsInTold_of_row (C := Ybaf.checked) (s := OpenSpec.ofChange Rows.lawS2936BRoundSpec) (by kernel_rfl) own started (by kernel_rfl) Ybaf.func4
    (OpenSpec.witness_stopped_at (enc := enc) (C := Ybaf.checked) false (laidWorld os) #[.int .u8 0, .int .u8 0] rfl (by kernel_rfl) (by kernel_rfl) (by kernel_rfl)
      (OpenSpec.preRow_of_B rfl 8 (by kernel_rfl) (by kernel_rfl) (laid_met os _))) ?_
  intro F W base0 args ds gs before _ hF hval0 hW _ _ _ hL _
  have hval : ∀ (j : Nat) t v, Ybaf.f4.params[j]? = some t → args[j]? = some v → Value.okWide Ybaf.prog W .any base0 t v := hval0
  have hW' := hW
  obtain ⟨p, q, hA0, hV0, rfl, hfz, hnd⟩ := hW
  have hA : DataW.TrodAll enc Ybaf.prog W 0 (fun _ => true) true Ybaf.f4.params.toList args.toList ds p := hA0
  have hV : DataW.TrodVars enc Ybaf.prog W (fun _ => true) ["example.com/interlock/interlock/lock.policyNames"] gs q := hV0
  rw [Ybaf.params4] at hA hval
  obtain ⟨v0, v1, d0, d1, p0, p1, rfl, rfl, rfl, h0, h1⟩ := trodAll_two hA
  obtain ⟨x, rfl, rfl, rfl, wx⟩ := open_int Ybaf.underlying5 (hval 0 5 v0 rfl rfl) h0
  obtain ⟨y, rfl, rfl, rfl, wy⟩ := open_int Ybaf.underlying5 (hval 1 5 v1 rfl rfl) h1
  have hN : Names W := names_of_laid hL
  obtain ⟨x0, x1⟩ := bounds_u8 wx
  clear hA0 hval0
  have h0lt : 0 < W.heap.size := by
    rcases Nat.lt_or_ge 0 W.heap.size with h | h
    · exact h
    · have := hN 0 (by omega)
      simp [World.cell?, Array.getElem?_eq_none h] at this
  have wk : Calls Ybaf.prog 4 #[.int .u8 x, .int .u8 y] W fun e w' => e = .returned (.bool true) ∧ Below W.heap.size W w' := by
    by_cases h3 : 3 ≤ x
    · exact law_bad F.told x y W hF h3
    · obtain ⟨n, rfl⟩ : ∃ n : Nat, x = (n : Int) := ⟨x.toNat, by omega⟩
      exact law_good n y W (by omega) hN h0lt
  refine wk.mono fun e W' ⟨he, bel⟩ => ?_
  subst he
  have hV2 := Below.trodVars laidOut bel (by kernel_rfl) hV
  match gs, hV2 with
  | [g1], hV2 => exact ⟨_, rfl, _, _, _, [], _, _, hW', trodAll_mk1 (shut_bool Ybaf.underlying4 _), trodAll_mk2 (shut_int Ybaf.underlying5 wx) (shut_int Ybaf.underlying5 wy), hV2, bel.frame _, fun h => by cases h⟩

theorem lawBRound_proved : Rows.LawS2936BRoundToldSaid :=
  Claim7.holds_of_told_tied_any_at .later 4 Ybaf.f4 "fmt.errorf" [] [] _ _ _ _ _ (by kernel_rfl) rfl rfl rfl laidOut (by kernel_rfl) rfl ⟨rfl, rfl, rfl, rfl, rfl, rfl, rfl⟩ rfl rfl (by kernel_rfl) (by kernel_rfl) Ybaf.func4 (by kernel_rfl)
    (of_decide_eq_true (by kernel_rfl)) (of_decide_eq_true (by kernel_rfl)) stops.symm rfl stopKnobs.symm (by kernel_rfl)
    (by kernel_rfl) (by kernel_rfl) (by kernel_rfl) (by kernel_rfl) (by kernel_rfl) (by kernel_rfl) (by kernel_rfl) (by kernel_rfl) (by kernel_rfl) rfl (by kernel_rfl) rfl rfl
    rfl rfl
    rfl (by kernel_rfl) (by kernel_rfl) (by kernel_rfl) (by decide) (by kernel_rfl) lawS2936BRound_row_tie
    (OpenClaim.moreEntering_of (by kernel_rfl) (by kernel_rfl) (by kernel_rfl) (by kernel_rfl) (by kernel_rfl) (by kernel_rfl) (by kernel_rfl) (by kernel_rfl) (by kernel_rfl) (by kernel_rfl))
    ⟨_, WideRow.started_initial, quiet _⟩
    (fun os started _ H enc _ => t_lifted os started H enc)
#print axioms lawBRound_proved
end Go.Proofs.YbulkbhtyFmt
