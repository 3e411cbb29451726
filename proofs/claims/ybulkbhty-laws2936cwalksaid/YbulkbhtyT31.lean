import Derived.Test.YbulkbhtyT30
namespace Go.Proofs.Ybulkbhty.Tree
open Go.RowKit Go.WideShapes Go.Lib Go.Maps

set_option maxHeartbeats 1000000 in
theorem build_zero (ao : Option Addr) (c : Nat) (w : World) :
    Calls Yba.prog 8 #[.slice ao 0 c] w fun e w' => ∃ model M t m p sz, e = .returned (.tuple #[.pointer (some ⟨w.heap.size, 0, none⟩), model]) ∧ BI w w.heap.size w' model M t m p sz 0 := by
  have NI := newItemSet_any w
  go_enter Yba.func8, Yba.ntmps8
  go_upto_region 4 with (go_at_call 13; refine NI.mono ?_; rintro e w1 ⟨rfl, hst, t1⟩)
  have hB : BI w w.heap.size w1 (.slice none 0 0) [] .nil (.map none) 0 0 0 := by
    refine ⟨hst, .inl ⟨rfl, rfl⟩, List.nodup_nil, Nat.le_refl _, fun q hq => by simp at hq, fun b hb => by simp [Value.ownBlock] at hb, fun b hb => ?_, t1⟩
    rcases hb with e | e | e
    · omega
    · simp [Tr.blocks] at e
    · simp [mblk] at e
  go_loopw [5, 6, 7, 8, 9, 10, 11] (fun model i _ _ _ _ _ wx => model = .slice none 0 0 ∧ i = .int .i64 0 ∧ w1 = wx) (fun _ _ _ _ _ _ _ _ => 0)
  case atStart => exact ⟨rfl, rfl, rfl⟩
  case round =>
    obtain ⟨rfl, rfl, rfl⟩ := hrel
    go_wp2_with fail
    go_ret2
    exact ⟨_, _, _, _, _, _, rfl, hB⟩

/-! ### The least item from a name on -/
structure Best (X : List (Key × Value)) (fr : Key) (b : Option (Key × Value)) : Prop where
  no : b = none → ∀ q ∈ X, KLt q.1 fr
  yes : ∀ q, b = some q → q ∈ X ∧ ¬ KLt q.1 fr ∧ ∀ q' ∈ X, ¬ KLt q'.1 fr → ¬ KLt q'.1 q.1
theorem Best.start (fr : Key) : Best [] fr none := ⟨fun _ q hq => by simp at hq, fun q hq => by cases hq⟩
theorem Best.skip {X : List (Key × Value)} {fr : Key} {b : Option (Key × Value)} {q : Key × Value} (h : Best X fr b) (hq : KLt q.1 fr) : Best (X ++ [q]) fr b :=
  ⟨fun e q' hq' => by
    rcases List.mem_append.1 hq' with h' | h'
    · exact h.no e q' h'
    · simp at h'; subst h'; exact hq, fun q' e => ⟨by simp [(h.yes q' e).1], (h.yes q' e).2.1, fun q'' hq'' hn => by
    rcases List.mem_append.1 hq'' with h' | h'
    · exact (h.yes q' e).2.2 q'' h' hn
    · simp at h'; subst h'; exact absurd hq hn⟩⟩
theorem Best.take {X : List (Key × Value)} {fr : Key} {b : Option (Key × Value)} {q : Key × Value} (h : Best X fr b) (hq : ¬ KLt q.1 fr) (hb : ∀ p, b = some p → KLt q.1 p.1) : Best (X ++ [q]) fr (some q) :=
  ⟨fun e => (by cases e), fun q' e => by
    cases e
    refine ⟨by simp, hq, fun q'' hq'' hn => ?_⟩
    rcases List.mem_append.1 hq'' with h' | h'
    · cases b with
      | none => exact absurd (h.no rfl q'' h') hn
      | some p => exact fun e => (h.yes p rfl).2.2 q'' h' hn (e.trans (hb p rfl))
    · simp at h'; subst h'; exact KLt.irrefl _⟩
theorem Best.stay {X : List (Key × Value)} {fr : Key} {p q : Key × Value} (h : Best X fr (some p)) (hb : ¬ KLt q.1 p.1) : Best (X ++ [q]) fr (some p) :=
  ⟨fun e => (by cases e), fun q' e => by
    cases e
    refine ⟨by simp [(h.yes p rfl).1], (h.yes p rfl).2.1, fun q'' hq'' hn => ?_⟩
    rcases List.mem_append.1 hq'' with h' | h'
    · exact (h.yes p rfl).2.2 q'' h' hn
    · simp at h'; subst h'; exact hb⟩

theorem ceil_least {L : List Key} {k y : Key} (hr : Rising L) (hy : y ∈ L) (hk : ¬ KLt y k) (hm : ∀ x ∈ L, ¬ KLt x k → ¬ KLt x y) : ceilOf L k = some y := by
  obtain ⟨A, B, rfl⟩ := List.append_of_mem hy
  have hA : ∀ x ∈ A, KLt x k := fun x hx => by
    have h1 : KLt x y := (List.pairwise_append.1 hr).2.2 x hx y (by simp)
    by_cases h : KLt x k
    · exact h
    · exact absurd h1 (hm x (by simp [hx]) h)
  rw [ceil_append, ceil_none hA, ceil_cons hk]
  rfl

theorem look_mem {M : List (Key × Value)} (hnd : (M.map (·.1)).Nodup) {q : Key × Value} (hq : q ∈ M) : look M q.1 = some q.2 := by
  obtain ⟨X, Y, rfl⟩ := List.append_of_mem hq
  refine look_split fun e => ?_
  rw [List.map_append, List.map_cons, List.nodup_append] at hnd
  exact hnd.2.2 _ e _ (by simp) rfl

theorem Best.ceil {w0 wx : World} {S : Nat} {model m : Value} {M : List (Key × Value)} {t : Tr} {p sz : Int} {j : Nat} {fr : Key} {b : Option (Key × Value)} (hB : BI w0 S wx model M t m p sz j) (h : Best M fr b) : ceilOf t.flat fr = b.map (·.1) ∧ ∀ q, b = some q → look M q.1 = some q.2 := by
  have hmem : ∀ x, x ∈ t.flat → ∃ v, (x, v) ∈ M := fun x hx => by
    have e := (hB.st.mem x).1 hx
    cases hl : look M x with
    | none => rw [hl] at e; cases e
    | some u => obtain ⟨X, Y, rfl, _⟩ := split_look hl; exact ⟨u, by simp⟩
  cases b with
  | none => exact ⟨ceil_none fun x hx => by obtain ⟨v, hv⟩ := hmem x hx; exact h.no rfl _ hv, fun q e => by cases e⟩
  | some q =>
    obtain ⟨h1, h2, h3⟩ := h.yes q rfl
    have hl := look_mem hB.nd h1
    refine ⟨ceil_least hB.st.rise ((hB.st.mem q.1).2 (by rw [hl]; rfl)) h2 fun x hx hn => ?_, fun q' e => by cases e; exact hl⟩
    obtain ⟨v, hv⟩ := hmem x hx
    exact h3 _ hv hn

theorem firstVal_cases (M : List (Key × Value)) (c : Option Key) : ∃ nmv vv okb, firstVal M c = .tuple #[.string nmv, vv, .bool okb] ∧ ((c = none ∧ nmv = ⟨#[]⟩ ∧ vv = .slice none 0 0 ∧ okb = false) ∨ ∃ y, c = some y ∧ nmv = y ∧ vv = (look M y).getD (.slice none 0 0) ∧ okb = true) := by
  cases c with
  | none => exact ⟨_, _, _, rfl, .inl ⟨rfl, rfl, rfl, rfl⟩⟩
  | some y => exact ⟨_, _, _, rfl, .inr ⟨y, rfl, rfl, rfl, rfl⟩⟩

theorem vec2_put {w : World} {B t : Nat} {a b : Value} (h : Vec w B t 2 [a, b]) (a' b' : Value) : Vec ((w.setCell ⟨B, 0, none⟩ a').setCell ⟨B, 1, none⟩ b') B t 2 [a', b'] := by
  have h1 := Vec.put (X := []) (Y := [b]) (y := a) h a'
  exact Vec.put (X := [a']) (Y := []) (y := b) h1 b'

def bestCells : Option (Key × Value) → List Value
  | none => [.string ⟨#[]⟩, .slice none 0 0]
  | some q => [.string q.1, q.2]

set_option maxHeartbeats 4000000 in
set_option maxRecDepth 100000 in
theorem ceil_law (ao : Option Addr) (N c : Nat) (fr : Key) (w : World) (hBU : N ≤ 1024 → Calls Yba.prog 8 #[.slice ao N c] w fun e w' => ∃ model M t m p sz, e = .returned (.tuple #[.pointer (some ⟨w.heap.size, 0, none⟩), model]) ∧ BI w w.heap.size w' model M t m p sz N) :
    Calls Yba.prog 5 #[.slice ao N c, .string fr] w fun e w' => e = .returned (.bool true) ∧ Touch (fun _ => False) w w' := by
  go_enter Yba.func5, Yba.ntmps5
  by_cases hN : 1024 < N
  · have i1 : (1024 : Int) < (N : Int) := by omega
    go_wp2_with fail
    go_ret
    exact ⟨rfl, Touch.refl _ w⟩
  · have i1 : ¬ (1024 : Int) < (N : Int) := by omega
    have BU := hBU (by omega)
    go_upto_region 4 with (go_at_call 8; refine BU.mono ?_; rintro e w1 ⟨model, M, t, m, p, sz, rfl, hB⟩)
    have hlM : M.length ≤ 1024 := by have := hB.len; omega
    have FI := first_any w.heap.size t m p sz M fr w1 hB.st hlM (fun y hy => by
      have e := (hB.st.mem y).1 hy
      cases hl : look M y with
      | none => rw [hl] at e; cases e
      | some u => obtain ⟨X, Y, rfl, _⟩ := split_look hl; exact Nat.le_trans (hB.vals (y, u) (by simp)).key (by unfold maxLen; omega))
    obtain ⟨nmv, vv, okb, hfv, hrel⟩ := firstVal_cases M (ceilOf t.flat fr)
    rw [hfv] at FI
    have hrel' : Hid ((ceilOf t.flat fr = none ∧ nmv = ⟨#[]⟩ ∧ vv = .slice none 0 0 ∧ okb = false) ∨ ∃ y, ceilOf t.flat fr = some y ∧ nmv = y ∧ vv = (look M y).getD (.slice none 0 0) ∧ okb = true) := hrel
    clear hfv hrel BU hBU
    go_upto_block 0 with (go_at_call 9; refine FI.mono ?_; rintro e w2 ⟨rfl, rfl⟩)
    clear FI
    have ta : Touch (fun _ => False) w2 (w2.alloc (.cells #[.string ⟨#[]⟩, .slice none 0 0] 35)) := (Touch.refl (fun _ => False) w2).alloc _
    have hB3 := hB.touch ta
    have hv0 : Vec (w2.alloc (.cells #[.string ⟨#[]⟩, .slice none 0 0] 35)) w2.heap.size 35 2 (bestCells none) := vec_two w2 (.string ⟨#[]⟩) (.slice none 0 0) 35
    have hz : w.heap.size ≤ w2.heap.size := hB.tc.size
    have hmb : model.ownBlock ≠ some w2.heap.size := fun e => by have := hB.ma.lt _ e; omega
    have hvb : ∀ q ∈ M, q.2.ownBlock ≠ some w2.heap.size := fun q hq e => by have := ((hB.vals q hq).blk _ e).2.2; omega
    generalize w2.heap.size = B at *
    generalize (w2.alloc (.cells #[.string ⟨#[]⟩, .slice none 0 0] 35)) = w3 at *
    go_cut [10, 12, 13] from 29 to 54 (fun fo _ _ wx => ∃ b, fo = .bool (Option.isSome b) ∧ Best M fr b ∧ Vec wx B 35 2 (bestCells b) ∧ Touch (· = B) w3 wx)
    case first =>
      go_wp2_with fail
      go_loopw [10, 12, 13] (fun fo jj _ wx => ∃ X Y b, M = X ++ Y ∧ jj = .int .i64 (X.length : Int) ∧ fo = .bool (Option.isSome b) ∧ Best X fr b ∧ Vec wx B 35 2 (bestCells b) ∧ Touch (· = B) w3 wx) (fun _ jj _ _ => M.length - (match jj with | .int _ z => z.toNat | _ => 0))
      case atStart => exact ⟨[], M, none, rfl, rfl, rfl, Best.start fr, hv0, Touch.refl _ _⟩
      case round =>
        obtain ⟨X, Y, b, hXY, rfl, rfl, hbest, hvec, htc⟩ := hrel
        have ma := hB3.ma.touch htc (fun b' hb' e => hmb (by rw [hb', e]))
        cases Y with
        | nil =>
          have e1 : ¬ (X.length : Int) < (M.length : Int) := by rw [hXY]; simp
          have hbest' : Best M fr b := by rw [hXY, List.append_nil]; exact hbest
          clear hXY
          rcases ma with ⟨rfl, rfl⟩ | ⟨g, cap, rfl, hmv, hle, hcm⟩
          · go_wp2_with fail
            go_meet
            exact ⟨b, rfl, hbest', hvec, htc⟩
          · go_wp2_with fail
            go_meet
            exact ⟨b, rfl, hbest', hvec, htc⟩
        | cons q Y =>
          obtain ⟨k, v⟩ := q
          rcases ma with ⟨_, rfl⟩ | ⟨g, cap, rfl, hmv, hle, hcm⟩
          · simp at hXY
          have e1 : (X.length : Int) < (M.length : Int) := by rw [hXY]; simp; omega
          have e2 : (X.length : Int) ≤ 1024 := by omega
          have e3 : M.length - (X.length + 1) < M.length - X.length := by rw [hXY]; simp; omega
          obtain ⟨vp, vn, vc, hvs, _⟩ := (hB3.vals (k, v) (by rw [hXY]; simp)).val.sliceV
          simp only at hvs
          subst hvs
          have ck : wr.cell? ⟨g, X.length * 2, none⟩ = some (.string k) := hmv.cell (by rw [hXY]; exact cellsOf_name)
          have cv : wr.cell? ⟨g, X.length * 2 + 1, none⟩ = some (.slice vp vn vc) := hmv.cell (by rw [hXY]; exact cellsOf_val)
          have hXY' : Hid (M = X ++ [(k, .slice vp vn vc)] ++ Y) := by show M = _; rw [hXY]; simp
          have ta' : Touch (fun _ => False) wr (wr.alloc (.cells #[.string k, .slice vp vn vc] 35)) := (Touch.refl (fun _ => False) wr).alloc _
          have hBB : B < wr.heap.size := hvec.lt
          have hne : wr.heap.size ≠ B := by omega
          have hveca := hvec.touch ta' id
          have htca : Touch (· = B) w3 (wr.alloc (.cells #[.string k, .slice vp vn vc] 35)) := htc.alloc _
          clear hXY
          by_cases hlt : KLt k fr
          · have hb1 : Op.bytesLess k.toList fr.toList = true := by rw [bytesLess_key]; simp [hlt]
            go_wp2_with fail
            go_roundw
            case rel => exact ⟨X ++ [(k, .slice vp vn vc)], Y, b, hXY'.out, by simp, rfl, hbest.skip hlt, hveca, htca⟩
            case measure => simpa using e3
          · have hb1 : Op.bytesLess k.toList fr.toList = false := by rw [bytesLess_key]; simp [hlt]
            have v0 := hveca.frozen 0
            have v1 := hveca.frozen 1
            have v2 := hvec.frozen 0
            have v3 := hvec.frozen 1
            have hne' := hne.symm
            cases b with
            | none =>
              have cb0 := hveca.cell (j := 0) (v := .string ⟨#[]⟩) rfl
              have cb1 := hveca.cell (j := 1) (v := .slice none 0 0) rfl
              have cb2 := hvec.cell (j := 0) (v := .string ⟨#[]⟩) rfl
              have cb3 := hvec.cell (j := 1) (v := .slice none 0 0) rfl
              go_wp2_with fail
              go_roundw
              case rel => exact ⟨X ++ [(k, .slice vp vn vc)], Y, some (k, .slice vp vn vc), hXY'.out, by simp, rfl, hbest.take hlt (fun _ e => by cases e), (vec2_put hvec _ _).touch ((Touch.refl (fun _ => False) _).alloc _) id, ((htc.setCell (fun _ => rfl)).setCell (fun _ => rfl)).alloc _⟩
              case measure => simpa using e3
            | some pq =>
              obtain ⟨pk, pv⟩ := pq
              have cb0 := hveca.cell (j := 0) (v := .string pk) rfl
              have cb2 := hvec.cell (j := 0) (v := .string pk) rfl
              have cb1 := hveca.cell (j := 1) (v := pv) rfl
              have cb3 := hvec.cell (j := 1) (v := pv) rfl
              by_cases hlt2 : KLt k pk
              · have hb2 : Op.bytesLess k.toList pk.toList = true := by rw [bytesLess_key]; simp [hlt2]
                go_wp2_with fail
                go_roundw
                case rel => exact ⟨X ++ [(k, .slice vp vn vc)], Y, some (k, .slice vp vn vc), hXY'.out, by simp, rfl, hbest.take hlt (fun _ e => by cases e; exact hlt2), (vec2_put hvec _ _).touch ((Touch.refl (fun _ => False) _).alloc _) id, ((htc.setCell (fun _ => rfl)).setCell (fun _ => rfl)).alloc _⟩
                case measure => simpa using e3
              · have hb2 : Op.bytesLess k.toList pk.toList = false := by rw [bytesLess_key]; simp [hlt2]
                go_wp2_with fail
                go_roundw
                case rel => exact ⟨X ++ [(k, .slice vp vn vc)], Y, some (pk, pv), hXY'.out, by simp, rfl, hbest.stay hlt2, hveca, htca⟩
                case measure => simpa using e3
    case rest =>
      obtain ⟨b, rfl, hbest, hvec, htc⟩ := hcut
      obtain ⟨hce, hlk⟩ := hbest.ceil hB3
      have tf : Touch (fun _ => False) w wc := hB3.tc.trans htc (fun x hx e => by omega)
      rcases hrel'.out with ⟨hc, rfl, rfl, rfl⟩ | ⟨y, hc, rfl, rfl, rfl⟩
      · rw [hc] at hce
        cases b with
        | none =>
          clear hce hc hrel'
          have hsn := fun w' a n c n' c' => Lib.run_eql_slice_nil (P := Yba.prog) w' 25 5 a n c n' c' Yba.underlying25
          go_wp2_with fail
          go_ret
          exact ⟨rfl, tf⟩
        | some q => cases hce
      · rw [hc] at hce
        cases b with
        | none => cases hce
        | some q =>
          obtain ⟨qk, qv⟩ := q
          have eq : nmv = qk := by simpa using hce
          subst eq
          have hl := hlk _ rfl
          simp only at hl
          rw [hl]
          simp only [Option.getD_some]
          have hqm := (hbest.yes _ rfl).1
          have hval := ((hB3.vals _ hqm).val).touch htc (fun b' hb' e => hvb _ hqm (by rw [hb', e]))
          simp only at hval
          have cb0 := hvec.cell (j := 0) (v := .string nmv) rfl
          have cb1 := hvec.cell (j := 1) (v := qv) rfl
          have EQ := equal_same qv wc hval
          clear hce hc hrel' hl hlk hbest
          go_wp2_with (go_at_call 10; refine EQ.mono ?_; rintro e w9 ⟨rfl, rfl⟩)
          go_ret
          exact ⟨rfl, tf⟩
end Go.Proofs.Ybulkbhty.Tree
