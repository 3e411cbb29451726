/-
  THE PROOF OF 'Rows.LawS2936CWalkSaid'.
-/
import Derived.Test.YbulkbhtyT33
import Derived.Test.YbulkbhtyT32
import Derived.WalkKit
namespace Go.Proofs.Ybulkbhty.lawS2936CWalk
open Go.ChangeShapes Go.WideShapes Go.ChangeAt Go.RowKit
open Go.Proofs.Ybulkbhty.Tree

theorem own : ownKnob Yba.prog.godebug = none := by kernel_rfl
theorem laidOut : laidOutB Yba.prog = true := by kernel_rfl

set_option maxRecDepth 100000 in
theorem lifted (os : Os) (started : os.Started) (H : Type) (enc : TypeId × Value → H) :
    ReturnsInHanded {} Yba.checked os 6 .any (Rows.lawS2936CWalkSpec.pre6 enc Yba.prog Yba.f6 Rows.lawS2936CWalkRow.domain false) (Rows.lawS2936CWalkSpec.post enc Yba.prog Yba.f6 false true false false) := by
  refine returnsInHanded_of_change_sized (C := Yba.checked) own started (by kernel_rfl) Yba.func6
    (ChangeSpec.witness6 (enc := enc) (C := Yba.checked) false ⟨#[], #[.slice none 0 0], []⟩ 8 (by kernel_rfl) (by kernel_rfl) (by kernel_rfl) (by kernel_rfl)) ?_
  intro W base args ds gs before hval0 hW _ hsz _
  have hval : ∀ (j : Nat) t v, Yba.f6.params[j]? = some t → args[j]? = some v → Value.okWide Yba.prog W .any base t v := hval0
  have hW' := hW
  obtain ⟨p, q, hA0, hV, rfl, hfz, hnd⟩ := hW
  have hA : DataW.TrodAll enc Yba.prog W 0 (fun _ => true) true Yba.f6.params.toList args.toList ds p := hA0
  have hsz' : (DataW.weightsEach Yba.prog (Yba.f6.params.toList ++ Rows.lawS2936CWalkSpec.plain.varTypes Yba.prog) (ds ++ gs)).all (· ≤ reachBytes) = true := hsz
  rw [Yba.params6] at hA hval hsz'
  obtain ⟨v0, vs0, d0, ds0, p0, q0, hargs, rfl, rfl, h0, r0⟩ := trodAll_cons hA
  obtain ⟨rfl, rfl, rfl⟩ := trodAll_nil r0
  obtain rfl : args = #[v0] := by cases args; simp_all
  obtain ⟨rfl, rfl⟩ := trodVars_none hV
  obtain ⟨a0, len0, cap0, rfl⟩ := okWide_slice Yba.underlying27 (hval 0 27 v0 rfl rfl)
  have k0 := h0
  have lt0 : ∀ x ∈ p0, x.block < W.heap.size := by obtain ⟨m, hm⟩ := k0; exact DataW.trod_lt m _ _ _ hm
  have hw0 : ∀ z ∈ d0.weights Yba.prog 27, z ≤ reachBytes := fun z hz => by
    have e := List.all_eq_true.1 hsz' z (DataW.weights_mem_each (j := 0) (t := 27) rfl rfl z hz)
    simpa using e
  have hops : len0 = 0 ∨ ∃ ob oo ky nm dl vl, a0 = some ⟨ob, oo, none⟩ ∧ OpsAt W ob oo len0 ky nm dl vl := by
    obtain ⟨fuel, hf⟩ := h0
    exact open_ops hf hw0
  refine (walk_law a0 len0 cap0 W (fun hN => build_of W a0 len0 cap0 hops hN (fun ao c => build_zero ao c W))).mono fun e W' ⟨he, ht⟩ => ?_
  subst he
  have bel : Below W.heap.size W W' := ht.below (Nat.le_refl _) (fun _ _ => id)
  exact ⟨_, rfl, _, _, _, [], _, [], hW', trodAll_mk1 (shut_bool Yba.underlying4 _), (trodAll_cons_mk (Below.trod laidOut (by kernel_rfl) (of_decide_eq_true (by kernel_rfl)) k0 bel lt0) trodAll_mk0), rfl, bel.frame _, fun h => by cases h⟩

theorem over : Rows.lawS2936CWalkRow.holds Yba.pinned (OpenSpec.ofChange Rows.lawS2936CWalkSpec) :=
  OpenClaim.holds_of_wide 6 Yba.f6 rfl rfl rfl rfl rfl rfl rfl ⟨rfl, rfl, rfl, rfl, rfl⟩ rfl rfl rfl rfl rfl (by kernel_rfl) Yba.func6 (by kernel_rfl)
    (of_decide_eq_true (by kernel_rfl)) (by unfold Func.isWrapper; first | (rw [if_pos (by decide +kernel)]; kernel_rfl) | (rw [if_neg (by decide +kernel)]; exact ⟨rfl, rfl⟩))
    (fun os started H enc _ => lifted os started H enc)

/-- The statement. -/
theorem proved : Rows.LawS2936CWalkSaid := over
#print axioms proved
end Go.Proofs.Ybulkbhty.lawS2936CWalk
