import Derived.Test.YbulkbhwqC2
import Derived.Deep.Strs
namespace Go.Proofs.Ybulkbhwq
open Go.ChangeShapes Go.WideShapes Go.ChangeAt Go.RowKit

theorem own : ownKnob Yba.prog.godebug = none := by kernel_rfl
theorem laidOut : laidOutB Yba.prog = true := by kernel_rfl
theorem cells30 : Yba.prog.cellsOf 30 = 3 := by kernel_rfl
theorem cells22 : Yba.prog.cellsOf 22 = 1 := by kernel_rfl
theorem cells5 : Yba.prog.cellsOf 5 = 1 := by kernel_rfl

theorem list_three {α : Type} {l : List α} (h : l.length = 3) : ∃ a b c, l = [a, b, c] := by
  match l, h with
  | [a, b, c], _ => exact ⟨a, b, c, rfl⟩

section
variable {H : Type} {enc : TypeId × Value → H} {w : World} {base : Nat} {spare : Nat → Bool} {held : Bool}

theorem open_regs {fuel : Nat} {a : Option Addr} {len cap : Nat} {x : DataW H × List MemPlace} (h : DataW.trod enc Yba.prog w base spare held fuel 23 [.slice a len cap] = some x) :
    ∃ O E S : Nat → Int, RsIn w a len O E S ∧ (∀ i, i < len → 0 ≤ S i ∧ S i ≤ 255) := by
  rcases Deep.open_slice Yba.underlying23 h with ⟨hcs, _⟩ | ⟨ad, len', cap', m, n, D, Pl, hcs, _, hl, _, hm, _, hV⟩
  · simp at hcs
    obtain ⟨_, rfl, rfl⟩ := hcs
    exact ⟨fun _ => 0, fun _ => 0, fun _ => 0, .inl rfl, fun i hi => absurd hi (Nat.not_lt_zero _)⟩
  · simp at hcs
    obtain ⟨rfl, rfl, rfl⟩ := hcs
    have hlm : len ≤ m := by rw [hm]; split <;> omega
    rw [cells30] at hV
    obtain ⟨F, hF⟩ := Deep.choose_lt (α := Int × Int × Int) (n := len) (p := fun i z => w.cell? (ad.add (i * 3)) = some (.int .u64 z.1) ∧ w.cell? ((ad.add (i * 3)).add 1) = some (.int .u64 z.2.1) ∧ w.cell? ((ad.add (i * 3)).add 2) = some (.int .u8 z.2.2) ∧ (0 ≤ z.2.2 ∧ z.2.2 ≤ 255)) (fun i hi => by
      obtain ⟨cs', h1, h2⟩ := hV i (by omega)
      obtain ⟨_, hlen, hc⟩ := World.cells?_some h1
      obtain ⟨y0, y1, y2, n', _, _, e0, e1, e2⟩ := Deep.trod_struct3 Yba.underlying30 h2
      obtain ⟨v0, v1, v2, rfl⟩ := list_three hlen
      simp only [List.drop_zero, List.drop_succ_cons, List.take_succ_cons, List.take_zero, cells22, cells5] at e0 e1 e2
      obtain ⟨z0, q0, _, _⟩ := DataW.trod_int Yba.underlying22 e0
      obtain ⟨z1, q1, _, _⟩ := DataW.trod_int Yba.underlying22 e1
      obtain ⟨z2, q2, _, w2⟩ := DataW.trod_int Yba.underlying5 e2
      simp at q0 q1 q2
      subst q0 q1 q2
      refine ⟨(z0, z1, z2), ?_, ?_, ?_, bounds_u8 w2⟩
      · have := hc 0 (by omega); simpa [Addr.add] using this
      · have := hc 1 (by omega); simpa using this
      · have := hc 2 (by omega); simpa using this)
    refine ⟨fun i => (F i).1, fun i => (F i).2.1, fun i => (F i).2.2, ?_, fun i hi => (hF i hi).2.2.2⟩
    by_cases h0 : len = 0
    · exact .inl h0
    · obtain ⟨b, off, spot⟩ := ad
      have hspot : spot = none := by simpa [Addr.add] using World.cell?_spot (hF 0 (by omega)).1
      subst hspot
      refine .inr ⟨b, off, rfl, fun i hi => ?_⟩
      obtain ⟨k1, k2, k3, _⟩ := hF i hi
      simp only [add_plain] at k1 k2 k3
      exact ⟨k1, k2, k3⟩
end

set_option maxRecDepth 100000 in
theorem law_lifted (os : Os) (started : os.Started) (H : Type) (enc : TypeId × Value → H) :
    ReturnsInHanded {} Yba.checked os 3 .any (Rows.lawS2941CCutsSpec.pre6 enc Yba.prog Yba.f3 Rows.lawS2941CCutsRow.domain false) (Rows.lawS2941CCutsSpec.post enc Yba.prog Yba.f3 false true false false) := by
  refine returnsInHanded_of_change (C := Yba.checked) own started (by kernel_rfl) Yba.func3
    (ChangeSpec.witness6 (enc := enc) (C := Yba.checked) false ⟨#[], #[.int .u64 0, .int .u64 0, .int .u64 0, .bool false, .slice none 0 0], []⟩ 8 (by kernel_rfl) (by kernel_rfl) (by kernel_rfl) (by kernel_rfl)) ?_
  intro W base args ds gs before hval0 hW hcnd _
  have hval : ∀ (j : Nat) t v, Yba.f3.params[j]? = some t → args[j]? = some v → Value.okWide Yba.prog W .any base t v := hval0
  have hW' := hW
  obtain ⟨p, q, hA0, hV, rfl, hfz, hnd⟩ := hW
  have hA : DataW.TrodAll enc Yba.prog W 0 (fun _ => true) true Yba.f3.params.toList args.toList ds p := hA0
  rw [Yba.params3] at hA hval
  obtain ⟨v0, vs0, d0, ds0, p0, q0, hargs, rfl, rfl, h0, r0⟩ := trodAll_cons hA
  obtain ⟨v1, vs1, d1, ds1, p1, q1, rfl, rfl, rfl, h1, r1⟩ := trodAll_cons r0
  obtain ⟨v2, vs2, d2, ds2, p2, q2, rfl, rfl, rfl, h2, r2⟩ := trodAll_cons r1
  obtain ⟨v3, vs3, d3, ds3, p3, q3, rfl, rfl, rfl, h3, r3⟩ := trodAll_cons r2
  obtain ⟨v4, vs4, d4, ds4, p4, q4, rfl, rfl, rfl, h4, r4⟩ := trodAll_cons r3
  obtain ⟨rfl, rfl, rfl⟩ := trodAll_nil r4
  obtain rfl : args = #[v0, v1, v2, v3, v4] := by cases args; simp_all
  obtain ⟨rfl, rfl⟩ := trodVars_none hV
  obtain ⟨x0, rfl, rfl, rfl, w0⟩ := open_int Yba.underlying22 (hval 0 22 v0 rfl rfl) h0
  obtain ⟨x1, rfl, rfl, rfl, w1⟩ := open_int Yba.underlying22 (hval 1 22 v1 rfl rfl) h1
  obtain ⟨x2, rfl, rfl, rfl, w2⟩ := open_int Yba.underlying22 (hval 2 22 v2 rfl rfl) h2
  obtain ⟨x3, rfl, rfl, rfl⟩ := open_bool Yba.underlying4 (hval 3 4 v3 rfl rfl) h3
  obtain ⟨a4, len4, cap4, rfl⟩ := okWide_slice Yba.underlying23 (hval 4 23 v4 rfl rfl)
  have lt4 : ∀ x ∈ p4, x.block < W.heap.size := by obtain ⟨m, hm⟩ := h4; exact DataW.trod_lt m _ _ _ hm
  obtain ⟨O, E, S, hI, bS⟩ : ∃ O E S : Nat → Int, RsIn W a4 len4 O E S ∧ (∀ i, i < len4 → 0 ≤ S i ∧ S i ≤ 255) := by
    obtain ⟨fuel, hf⟩ := h4
    exact open_regs hf
  clear hA0 hval0
  have wk : Calls Yba.prog 3 #[.int .u64 x0, .int .u64 x1, .int .u64 x2, .bool x3, .slice a4 len4 cap4] W fun e w' => e = .returned (.bool true) ∧ Below W.heap.size W w' := by
    by_cases hb : 1024 < len4
    · exact law_big a4 len4 cap4 x0 x1 x2 x3 W hb
    · refine law_small a4 len4 cap4 (if x3 then 0 else 1) x0 x1 x2 x3 O E S W (by omega) hI ?_ bS ?_
      · cases x3 <;> rfl
      · cases x3 <;> decide
  refine wk.mono fun e W' ⟨he, bel⟩ => ?_
  subst he
  exact ⟨_, rfl, _, _, _, [], _, [], hW', trodAll_mk1 (shut_bool Yba.underlying4 _), (trodAll_cons_mk (shut_int Yba.underlying22 w0) (trodAll_cons_mk (shut_int Yba.underlying22 w1) (trodAll_cons_mk (shut_int Yba.underlying22 w2) (trodAll_cons_mk (shut_bool Yba.underlying4 _) (trodAll_cons_mk (Below.trod laidOut (by kernel_rfl) (of_decide_eq_true (by kernel_rfl)) h4 bel lt4) trodAll_mk0))))), rfl, bel.frame _, fun h => by cases h⟩

theorem law_over : Rows.lawS2941CCutsRow.holds Yba.pinned (OpenSpec.ofChange Rows.lawS2941CCutsSpec) :=
  OpenClaim.holds_of_wide 3 Yba.f3 rfl rfl rfl rfl rfl rfl rfl ⟨rfl, rfl, rfl, rfl, rfl⟩ rfl rfl rfl rfl rfl (by kernel_rfl) Yba.func3 (by kernel_rfl)
    (of_decide_eq_true (by kernel_rfl)) (by unfold Func.isWrapper; first | (rw [if_pos (by decide +kernel)]; kernel_rfl) | (rw [if_neg (by decide +kernel)]; exact ⟨rfl, rfl⟩))
    (fun os started H enc _ => law_lifted os started H enc)

/-- THE STATEMENT -/
theorem lawC_proved : Rows.LawS2941CCutsSaid := law_over
#print axioms lawC_proved
end Go.Proofs.Ybulkbhwq
