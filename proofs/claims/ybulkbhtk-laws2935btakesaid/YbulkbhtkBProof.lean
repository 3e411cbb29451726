import Derived.Test.YbulkbhtkB14
import Derived.Test.YbulkbhtkAProof
import Derived.Deep.Strs
namespace Go.Proofs.Ybulkbhtk
open Go.ChangeShapes Go.WideShapes Go.ChangeAt Go.RowKit

theorem cells51 : Yba.prog.cellsOf 51 = 3 := by kernel_rfl
theorem cells49 : Yba.prog.cellsOf 49 = 1 := by kernel_rfl
theorem cells21 : Yba.prog.cellsOf 21 = 1 := by kernel_rfl

theorem list_three {α : Type} {l : List α} (h : l.length = 3) : ∃ a b c, l = [a, b, c] := by
  match l, h with
  | [a, b, c], _ => exact ⟨a, b, c, rfl⟩

section
variable {H : Type} {enc : TypeId × Value → H} {w : World} {base : Nat} {spare : Nat → Bool} {held : Bool}

theorem open_ticks {fuel : Nat} {a : Option Addr} {len cap : Nat} {x : DataW H × List MemPlace} (h : DataW.trod enc Yba.prog w base spare held fuel 33 [.slice a len cap] = some x) :
    ∃ tu wh pr : Nat → Int, Tks w a len tu wh pr ∧ (∀ i, i < len → 0 ≤ tu i ∧ tu i ≤ 65535) ∧ (∀ i, i < len → 0 ≤ wh i ∧ wh i ≤ 255) := by
  rcases Deep.open_slice Yba.underlying33 h with ⟨hcs, _⟩ | ⟨ad, len', cap', m, n, D, Pl, hcs, _, hl, _, hm, _, hV⟩
  · simp at hcs
    obtain ⟨_, rfl, rfl⟩ := hcs
    exact ⟨fun _ => 0, fun _ => 0, fun _ => 0, .inl rfl, fun i hi => absurd hi (Nat.not_lt_zero _), fun i hi => absurd hi (Nat.not_lt_zero _)⟩
  · simp at hcs
    obtain ⟨rfl, rfl, rfl⟩ := hcs
    have hlm : len ≤ m := by rw [hm]; split <;> omega
    rw [cells51] at hV
    obtain ⟨F, hF⟩ := Deep.choose_lt (α := Int × Int × Int) (n := len) (p := fun i z => w.cell? (ad.add (i * 3)) = some (.int .u16 z.1) ∧ w.cell? ((ad.add (i * 3)).add 1) = some (.int .u8 z.2.1) ∧ w.cell? ((ad.add (i * 3)).add 2) = some (.int .i32 z.2.2) ∧ (0 ≤ z.1 ∧ z.1 ≤ 65535) ∧ (0 ≤ z.2.1 ∧ z.2.1 ≤ 255)) (fun i hi => by
      obtain ⟨cs', h1, h2⟩ := hV i (by omega)
      obtain ⟨_, hlen, hc⟩ := World.cells?_some h1
      obtain ⟨y0, y1, y2, n', _, _, e0, e1, e2⟩ := Deep.trod_struct3 Yba.underlying51 h2
      obtain ⟨v0, v1, v2, rfl⟩ := list_three hlen
      · simp only [List.drop_zero, List.drop_succ_cons, List.take_succ_cons, List.take_zero, cells49, cells5, cells21] at e0 e1 e2
        obtain ⟨z0, q0, _, w0⟩ := DataW.trod_int Yba.underlying49 e0
        obtain ⟨z1, q1, _, w1⟩ := DataW.trod_int Yba.underlying5 e1
        obtain ⟨z2, q2, _, _⟩ := DataW.trod_int Yba.underlying21 e2
        simp at q0 q1 q2
        subst q0 q1 q2
        refine ⟨(z0, z1, z2), ?_, ?_, ?_, ?_, bounds_u8 w1⟩
        · have := hc 0 (by omega); simpa [Addr.add] using this
        · have := hc 1 (by omega); simpa using this
        · have := hc 2 (by omega); simpa using this
        · exact bounds_u16 w0)
    refine ⟨fun i => (F i).1, fun i => (F i).2.1, fun i => (F i).2.2, ?_, fun i hi => (hF i hi).2.2.2.1, fun i hi => (hF i hi).2.2.2.2⟩
    by_cases h0 : len = 0
    · exact .inl h0
    · obtain ⟨b, off, spot⟩ := ad
      have hspot : spot = none := by simpa [Addr.add] using World.cell?_spot (hF 0 (by omega)).1
      subst hspot
      refine .inr ⟨b, off, rfl, fun i hi => ?_⟩
      obtain ⟨k1, k2, k3, _⟩ := hF i hi
      simp only [add_plain] at k1 k2 k3
      exact ⟨k1, k2, k3⟩
end

set_option maxRecDepth 100000 in
theorem lawB_lifted (os : Os) (started : os.Started) (H : Type) (enc : TypeId × Value → H) :
    ReturnsInHanded {} Yba.checked os 4 .any (Rows.lawS2935BTakeSpec.pre6 enc Yba.prog Yba.f4 Rows.lawS2935BTakeRow.domain false) (Rows.lawS2935BTakeSpec.post enc Yba.prog Yba.f4 false true false false) := by
  refine returnsInHanded_of_change (C := Yba.checked) own started (by kernel_rfl) Yba.func4
    (ChangeSpec.witness6 (enc := enc) (C := Yba.checked) false ⟨#[], #[.slice none 0 0, .int .u8 0, .int .u8 0, .int .u8 0, .slice none 0 0], []⟩ 8 (by kernel_rfl) (by kernel_rfl) (by kernel_rfl) (by kernel_rfl)) ?_
  intro W base args ds gs before hval0 hW hcnd _
  have hval : ∀ (j : Nat) t v, Yba.f4.params[j]? = some t → args[j]? = some v → Value.okWide Yba.prog W .any base t v := hval0
  have hW' := hW
  obtain ⟨p, q, hA0, hV, rfl, hfz, hnd⟩ := hW
  have hA : DataW.TrodAll enc Yba.prog W 0 (fun _ => true) true Yba.f4.params.toList args.toList ds p := hA0
  rw [Yba.params4] at hA hval
  obtain ⟨v0, vs0, d0, ds0, p0, q0, hargs, rfl, rfl, h0, r0⟩ := trodAll_cons hA
  obtain ⟨v1, vs1, d1, ds1, p1, q1, rfl, rfl, rfl, h1, r1⟩ := trodAll_cons r0
  obtain ⟨v2, vs2, d2, ds2, p2, q2, rfl, rfl, rfl, h2, r2⟩ := trodAll_cons r1
  obtain ⟨v3, vs3, d3, ds3, p3, q3, rfl, rfl, rfl, h3, r3⟩ := trodAll_cons r2
  obtain ⟨v4, vs4, d4, ds4, p4, q4, rfl, rfl, rfl, h4, r4⟩ := trodAll_cons r3
  obtain ⟨rfl, rfl, rfl⟩ := trodAll_nil r4
  obtain rfl : args = #[v0, v1, v2, v3, v4] := by cases args; simp_all
  obtain ⟨rfl, rfl⟩ := trodVars_none hV
  obtain ⟨a0, len0, cap0, rfl⟩ := okWide_slice Yba.underlying23 (hval 0 23 v0 rfl rfl)
  obtain ⟨x1, rfl, rfl, rfl, w1⟩ := open_int Yba.underlying5 (hval 1 5 v1 rfl rfl) h1
  obtain ⟨x2, rfl, rfl, rfl, w2⟩ := open_int Yba.underlying5 (hval 2 5 v2 rfl rfl) h2
  obtain ⟨x3, rfl, rfl, rfl, w3⟩ := open_int Yba.underlying5 (hval 3 5 v3 rfl rfl) h3
  obtain ⟨a4, len4, cap4, rfl⟩ := okWide_slice Yba.underlying33 (hval 4 33 v4 rfl rfl)
  have lt0 : ∀ x ∈ p0, x.block < W.heap.size := by obtain ⟨m, hm⟩ := h0; exact DataW.trod_lt m _ _ _ hm
  have lt4 : ∀ x ∈ p4, x.block < W.heap.size := by obtain ⟨m, hm⟩ := h4; exact DataW.trod_lt m _ _ _ hm
  obtain ⟨D, aD, bD⟩ : ∃ L : Nat → Int, Arr W a0 len0 (fun i => .int .u8 (L i)) ∧ ∀ i, i < len0 → 0 ≤ L i ∧ L i ≤ 255 := by
    obtain ⟨fuel, hf⟩ := h0
    obtain ⟨_, F, hF, hp⟩ := open_arr (Value.int .u8) (fun z => 0 ≤ z ∧ z ≤ 255) Yba.underlying23 cells5 hf (fun n v y hy => by
      obtain ⟨b, hb, _, hw⟩ := DataW.trod_int Yba.underlying5 hy
      simp at hb
      have := bounds_u8 hw
      exact ⟨b, hb, this⟩)
    exact ⟨F, hF, hp⟩
  obtain ⟨tu, wh, pr, tk, bT, bW⟩ : ∃ tu wh pr : Nat → Int, Tks W a4 len4 tu wh pr ∧ (∀ i, i < len4 → 0 ≤ tu i ∧ tu i ≤ 65535) ∧ (∀ i, i < len4 → 0 ≤ wh i ∧ wh i ≤ 255) := by
    obtain ⟨fuel, hf⟩ := h4
    exact open_ticks hf
  clear hA0 hval0
  have wk : Calls Yba.prog 4 #[.slice a0 len0 cap0, .int .u8 x1, .int .u8 x2, .int .u8 x3, .slice a4 len4 cap4] W fun e w' => e = .returned (.bool true) ∧ Below W.heap.size W w' := by
    by_cases hb : 1024 < len0 ∨ 1024 < len4
    · exact lawB_big a0 a4 len0 cap0 len4 cap4 x1 x2 x3 W hb
    · exact lawB_small a0 a4 len0 cap0 len4 cap4 x1 x2 x3 D tu wh pr W (by omega) (by omega) (bounds_u8 w1) (bounds_u8 w2) (bounds_u8 w3) aD bD tk bT bW
  refine wk.mono fun e W' ⟨he, bel⟩ => ?_
  subst he
  exact ⟨_, rfl, _, _, _, [], _, [], hW', trodAll_mk1 (shut_bool Yba.underlying4 _), (trodAll_cons_mk (Below.trod laidOut (by kernel_rfl) (of_decide_eq_true (by kernel_rfl)) h0 bel lt0) (trodAll_cons_mk (shut_int Yba.underlying5 w1) (trodAll_cons_mk (shut_int Yba.underlying5 w2) (trodAll_cons_mk (shut_int Yba.underlying5 w3) (trodAll_cons_mk (Below.trod laidOut (by kernel_rfl) (of_decide_eq_true (by kernel_rfl)) h4 bel lt4) trodAll_mk0))))), rfl, bel.frame _, fun h => by cases h⟩

theorem lawB_over : Rows.lawS2935BTakeRow.holds Yba.pinned (OpenSpec.ofChange Rows.lawS2935BTakeSpec) :=
  OpenClaim.holds_of_wide 4 Yba.f4 rfl rfl rfl rfl rfl rfl rfl ⟨rfl, rfl, rfl, rfl, rfl⟩ rfl rfl rfl rfl rfl (by kernel_rfl) Yba.func4 (by kernel_rfl)
    (of_decide_eq_true (by kernel_rfl)) (by unfold Func.isWrapper; first | (rw [if_pos (by decide +kernel)]; kernel_rfl) | (rw [if_neg (by decide +kernel)]; exact ⟨rfl, rfl⟩))
    (fun os started H enc _ => lawB_lifted os started H enc)

/-- THE STATEMENT -/
theorem lawB_proved : Rows.LawS2935BTakeSaid := lawB_over
#print axioms lawB_proved
end Go.Proofs.Ybulkbhtk
