import Derived.Test.YbulkbhtkA3
import Derived.ProofKit
import Derived.OpenShut
import Derived.ShutString
import Derived.ChangeOld
import Derived.Below
import Derived.Deep.Slices
namespace Go.Proofs.Ybulkbhtk
open Go.ChangeShapes Go.WideShapes Go.ChangeAt Go.RowKit

theorem own : ownKnob Yba.prog.godebug = none := by kernel_rfl
theorem laidOut : laidOutB Yba.prog = true := by kernel_rfl
theorem cells31 : Yba.prog.cellsOf 31 = 1 := by kernel_rfl
theorem cells5 : Yba.prog.cellsOf 5 = 1 := by kernel_rfl

section
variable {H : Type} {enc : TypeId × Value → H} {P : Program} {w : World} {base : Nat} {spare : Nat → Bool} {held : Bool}

theorem trod_float {k : FloatKind} {t : TypeId} {fuel : Nat} {cs : List Value} {x : DataW H × List MemPlace} (ht : P.underlying t = some (.float k)) (h : DataW.trod enc P w base spare held fuel t cs = some x) : ∃ b, cs = [.float k b] ∧ (Lit.float k b).wf = true := by
  cases fuel with
  | zero => simp [DataW.trod] at h
  | succ n =>
    unfold DataW.trod at h
    rw [ht] at h
    split at h <;> simp_all

/-- A slice of one-cell elements, opened: its elements' cells. -/
theorem open_arr {t e : TypeId} {fuel : Nat} {a : Option Addr} {len cap : Nat} {x : DataW H × List MemPlace} {α : Type} [Inhabited α] (G : α → Value) (p : α → Prop) (ht : P.underlying t = some (.slice e)) (hc : P.cellsOf e = 1)
    (h : DataW.trod enc P w base spare held fuel t [.slice a len cap] = some x)
    (el : ∀ n v y, DataW.trod enc P w base spare held n e [v] = some y → ∃ z, v = G z ∧ p z) :
    len ≤ cap ∧ ∃ F : Nat → α, Arr w a len (fun i => G (F i)) ∧ ∀ i, i < len → p (F i) := by
  rcases Deep.open_slice1 ht hc h with ⟨hcs, _⟩ | ⟨ad, len', cap', m, n, V, D, Pl, hcs, _, hl, _, hm, _, hV⟩
  · simp at hcs
    obtain ⟨_, rfl, rfl⟩ := hcs
    exact ⟨Nat.le_refl _, fun _ => default, .inl rfl, fun i hi => absurd hi (Nat.not_lt_zero _)⟩
  · simp at hcs
    obtain ⟨rfl, rfl, rfl⟩ := hcs
    have hlm : len ≤ m := by rw [hm]; split <;> omega
    refine ⟨hl, ?_⟩
    obtain ⟨F, hF⟩ := Deep.choose_lt (n := len) (p := fun i z => V i = G z ∧ p z) (fun i hi => el _ _ _ (hV i (by omega)).2)
    refine ⟨F, ?_, fun i hi => (hF i hi).2⟩
    by_cases h0 : len = 0
    · exact .inl h0
    · obtain ⟨b, off, spot⟩ := ad
      have hspot : spot = none := by simpa [Addr.add] using World.cell?_spot (hV 0 (by omega)).1
      subst hspot
      exact .inr ⟨b, off, rfl, fun i hi => by rw [← add_plain, (hV i (by omega)).1, (hF i hi).1]⟩
end

set_option maxRecDepth 100000 in
theorem lawA_lifted (os : Os) (started : os.Started) (H : Type) (enc : TypeId × Value → H) :
    ReturnsInHanded {} Yba.checked os 3 .any (Rows.lawS2935AModelSpec.pre6 enc Yba.prog Yba.f3 Rows.lawS2935AModelRow.domain false) (Rows.lawS2935AModelSpec.post enc Yba.prog Yba.f3 false true false false) := by
  refine returnsInHanded_of_change (C := Yba.checked) own started (by kernel_rfl) Yba.func3
    (ChangeSpec.witness6 (enc := enc) (C := Yba.checked) false ⟨#[], #[.slice none 0 0, .slice none 0 0, .slice none 0 0], []⟩ 8 (by kernel_rfl) (by kernel_rfl) (by kernel_rfl) (by kernel_rfl)) ?_
  intro W base args ds gs before hval0 hW hcnd _
  have hval : ∀ (j : Nat) t v, Yba.f3.params[j]? = some t → args[j]? = some v → Value.okWide Yba.prog W .any base t v := hval0
  have hW' := hW
  obtain ⟨p, q, hA0, hV, rfl, hfz, hnd⟩ := hW
  have hA : DataW.TrodAll enc Yba.prog W 0 (fun _ => true) true Yba.f3.params.toList args.toList ds p := hA0
  rw [Yba.params3] at hA hval
  obtain ⟨v0, vs0, d0, ds0, p0, q0, hargs, rfl, rfl, h0, r0⟩ := trodAll_cons hA
  obtain ⟨v1, vs1, d1, ds1, p1, q1, rfl, rfl, rfl, h1, r1⟩ := trodAll_cons r0
  obtain ⟨v2, vs2, d2, ds2, p2, q2, rfl, rfl, rfl, h2, r2⟩ := trodAll_cons r1
  obtain ⟨rfl, rfl, rfl⟩ := trodAll_nil r2
  obtain rfl : args = #[v0, v1, v2] := by cases args; simp_all
  obtain ⟨rfl, rfl⟩ := trodVars_none hV
  obtain ⟨a0, len0, cap0, rfl⟩ := okWide_slice Yba.underlying22 (hval 0 22 v0 rfl rfl)
  obtain ⟨a1, len1, cap1, rfl⟩ := okWide_slice Yba.underlying22 (hval 1 22 v1 rfl rfl)
  obtain ⟨a2, len2, cap2, rfl⟩ := okWide_slice Yba.underlying23 (hval 2 23 v2 rfl rfl)
  have lt0 : ∀ x ∈ p0, x.block < W.heap.size := by obtain ⟨m, hm⟩ := h0; exact DataW.trod_lt m _ _ _ hm
  have lt1 : ∀ x ∈ p1, x.block < W.heap.size := by obtain ⟨m, hm⟩ := h1; exact DataW.trod_lt m _ _ _ hm
  have lt2 : ∀ x ∈ p2, x.block < W.heap.size := by obtain ⟨m, hm⟩ := h2; exact DataW.trod_lt m _ _ _ hm
  obtain ⟨S, aS⟩ : ∃ S : Nat → Nat, Arr W a0 len0 (fun i => .float .f64 (S i)) := by
    obtain ⟨fuel, hf⟩ := h0
    obtain ⟨_, F, hF, _⟩ := open_arr (Value.float .f64) (fun _ => True) Yba.underlying22 cells31 hf (fun n v y hy => by obtain ⟨b, hb, _⟩ := trod_float Yba.underlying31 hy; simp at hb; exact ⟨b, hb, trivial⟩)
    exact ⟨F, hF⟩
  obtain ⟨V, aV⟩ : ∃ S : Nat → Nat, Arr W a1 len1 (fun i => .float .f64 (S i)) := by
    obtain ⟨fuel, hf⟩ := h1
    obtain ⟨_, F, hF, _⟩ := open_arr (Value.float .f64) (fun _ => True) Yba.underlying22 cells31 hf (fun n v y hy => by obtain ⟨b, hb, _⟩ := trod_float Yba.underlying31 hy; simp at hb; exact ⟨b, hb, trivial⟩)
    exact ⟨F, hF⟩
  obtain ⟨L, aL, bL⟩ : ∃ L : Nat → Int, Arr W a2 len2 (fun i => .int .u8 (L i)) ∧ ∀ i, i < len2 → 0 ≤ L i ∧ L i ≤ 255 := by
    obtain ⟨fuel, hf⟩ := h2
    obtain ⟨_, F, hF, hp⟩ := open_arr (Value.int .u8) (fun z => 0 ≤ z ∧ z ≤ 255) Yba.underlying23 cells5 hf (fun n v y hy => by
      obtain ⟨b, hb, _, hw⟩ := DataW.trod_int Yba.underlying5 hy
      simp at hb
      have := bounds_u8 hw
      exact ⟨b, hb, this⟩)
    exact ⟨F, hF, hp⟩
  clear hA0 hval0
  have wk : Calls Yba.prog 3 #[.slice a0 len0 cap0, .slice a1 len1 cap1, .slice a2 len2 cap2] W fun e w' => e = .returned (.bool true) ∧ Below W.heap.size W w' := by
    by_cases hb : 1024 < len1 ∨ 1024 < len0 ∨ 1024 < len2
    · exact law_big a0 a1 a2 len0 len1 len2 cap0 cap1 cap2 W hb
    · exact law_small a0 a1 a2 len0 len1 len2 cap0 cap1 cap2 S V L W (by omega) (by omega) (by omega) aS aV aL bL
  refine wk.mono fun e W' ⟨he, bel⟩ => ?_
  subst he
  exact ⟨_, rfl, _, _, _, [], _, [], hW', trodAll_mk1 (shut_bool Yba.underlying4 _), (trodAll_cons_mk (Below.trod laidOut (by kernel_rfl) (of_decide_eq_true (by kernel_rfl)) h0 bel lt0) (trodAll_cons_mk (Below.trod laidOut (by kernel_rfl) (of_decide_eq_true (by kernel_rfl)) h1 bel lt1) (trodAll_cons_mk (Below.trod laidOut (by kernel_rfl) (of_decide_eq_true (by kernel_rfl)) h2 bel lt2) trodAll_mk0))), rfl, bel.frame _, fun h => by cases h⟩

theorem lawA_over : Rows.lawS2935AModelRow.holds Yba.pinned (OpenSpec.ofChange Rows.lawS2935AModelSpec) :=
  OpenClaim.holds_of_wide 3 Yba.f3 rfl rfl rfl rfl rfl rfl rfl ⟨rfl, rfl, rfl, rfl, rfl⟩ rfl rfl rfl rfl rfl (by kernel_rfl) Yba.func3 (by kernel_rfl)
    (of_decide_eq_true (by kernel_rfl)) (by unfold Func.isWrapper; first | (rw [if_pos (by decide +kernel)]; kernel_rfl) | (rw [if_neg (by decide +kernel)]; exact ⟨rfl, rfl⟩))
    (fun os started H enc _ => lawA_lifted os started H enc)

/-- THE STATEMENT -/
theorem lawA_proved : Rows.LawS2935AModelSaid := lawA_over
#print axioms lawA_proved
end Go.Proofs.Ybulkbhtk
