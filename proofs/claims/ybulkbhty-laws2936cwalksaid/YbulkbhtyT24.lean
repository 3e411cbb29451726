import Derived.Test.YbulkbhtyT23
import Derived.Deep.CutRange
import Derived.BigQuiet
import Derived.WalkSpells
namespace Go.Proofs.Ybulkbhty.Tree
open Go.RowKit Go.WideShapes Go.Lib Go.Maps

theorem MapField.get {w : World} {m : Value} {M : List (Key × Value)} (h : MapField w m M) {k : Key} (hk : k.size ≤ maxLen) : (Instr.lookup 52 m (.string k) true).run Yba.prog w = .ok (.tuple #[(look M k).getD (.slice none 0 0), .bool (look M k).isSome]) w := by
  rcases h with ⟨rfl, rfl⟩ | ⟨b, rfl, h⟩
  · exact Maps.look_nil true law9 Yba.underlying52 (zero25 w) (keyOf9 hk)
  · exact h.get hk
theorem MapField.len {w : World} {m : Value} {M : List (Key × Value)} (h : MapField w m M) (ty : TypeId) : (Builtin.len_ #[52] ty #[m]).run Yba.prog w = .ok (.int .i64 (M.length : Int)) w := by
  rcases h with ⟨rfl, rfl⟩ | ⟨b, rfl, h⟩
  · exact Maps.len_nil Yba.underlying52 ty
  · exact h.len ty

theorem eql52 (w : World) (r : Option Nat) : (binOp .eql 52 (.map r) (.map none)).run Yba.prog w = .ok (.bool r.isNone) w := by
  exact run_eql_map_nil w 52 9 25 r Yba.underlying52

theorem get_any (S : Nat) (m : Value) (M : List (Key × Value)) (k : Key) (w : World) (hc : w.cell? ⟨S, 0, none⟩ = some m) (hm : MapField w m M) (hk : k.size ≤ maxLen) :
    Calls Yba.prog 18 #[.pointer (some ⟨S, 0, none⟩), .string k] w fun e w' => e = .returned (.tuple #[(look M k).getD (.slice none 0 0), .bool (look M k).isSome]) ∧ w' = w := by
  have hg := hm.get hk
  go_enter Yba.func18, Yba.ntmps18
  go_wp2_with fail
  go_ret2
  exact ⟨rfl, rfl⟩

set_option maxHeartbeats 2000000 in
set_option maxRecDepth 100000 in
theorem set_some (S b : Nat) (p : Int) (root n size v : Value) (M M' : List (Key × Value)) (k : Key) (w : World) (hS : SetRow w S (.map (some b)) (.int .i64 p) root n size) (hm : MapIs w b M) (hbS : b ≠ S) (hk : k.size ≤ maxLen) (hn : M.length ≤ 1024) (hp : Puts M k v M') (hp0 : 0 ≤ p ∧ p ≤ 2000) :
    Calls Yba.prog 21 #[.pointer (some ⟨S, 0, none⟩), .string k, v] w fun e w' => e = .returned (.bool (look M k).isNone) ∧ ∃ p', SetRow w' S (.map (some b)) (.int .i64 p') root n size ∧ (0 ≤ p' ∧ p' ≤ 2000) ∧ MapIs w' b M' ∧ Touch (fun x => x = S ∨ x = b) w w' := by
  obtain ⟨w1, hrun, hm1, t1⟩ := hm.store hk (by unfold maxLen; omega) hp
  have hl0 := fun ty => hm.len ty
  have hl1 := fun ty => hm1.len ty
  have hl2 := fun ty => (hm1.touch ((Touch.refl (fun _ => False) w1).drew) id).len ty
  have hS1 := hS.touch t1 (fun e => hbS e.symm)
  have hM' : M'.length ≤ 1025 := by have := hp.len; split at this <;> omega
  have c0 := hS.c0
  have d0 := hS1.c0
  have d1 := hS1.c1
  have df := hS1.fz 1
  have hfin : (decide (M.length < M'.length)) = (look M k).isNone := by
    rw [hp.len]
    cases look M k with
    | none => simp
    | some u => simp
  have he := eql52
  go_enter Yba.func21, Yba.ntmps21
  go_upto_region 5 with fail
  obtain ⟨q, hq⟩ : ∃ q : Int, q = max p (M'.length : Int) := ⟨_, rfl⟩
  go_cut [7] from 28 to 40 (fun x wx => x = .int .i64 (M.length : Int) ∧ wx = (w1.setCell ⟨S, 1, none⟩ (.int .i64 q)).drew)
  case first =>
    go_region
    all_goals (go_wp2_with fail; go_meet; exact ⟨rfl, by rw [hq]⟩)
  case rest =>
    obtain ⟨rfl, hwc⟩ := hcut
    have hSc : SetRow wc S (.map (some b)) (.int .i64 q) root n size := by
      rw [hwc]
      exact (hS1.set1 (.int .i64 q)).touch ((Touch.refl (fun _ => False) _).drew) id
    have tc : Touch (fun x => x = S) w1 wc := by rw [hwc]; exact ((Touch.refl (· = S) w1).setCell (fun _ => rfl)).drew
    have hmc := hm1.touch tc hbS
    have hlc := fun ty => hmc.len ty
    have e0 := hSc.c0
    clear hwc
    go_wp2_with fail
    go_ret
    refine ⟨by rw [← hfin]; rfl, q, hSc, by omega, hmc, (t1.mono (fun _ _ e => .inr e)).trans tc (fun _ _ e => .inl e)⟩

set_option maxHeartbeats 2000000 in
set_option maxRecDepth 100000 in
theorem set_nil (S : Nat) (p : Int) (root n size v : Value) (M' : List (Key × Value)) (k : Key) (w : World) (hS : SetRow w S (.map none) (.int .i64 p) root n size) (hk : k.size ≤ maxLen) (hp : Puts [] k v M') (hp0 : 0 ≤ p ∧ p ≤ 2000) :
    Calls Yba.prog 21 #[.pointer (some ⟨S, 0, none⟩), .string k, v] w fun e w' => e = .returned (.bool true) ∧ ∃ b p', SetRow w' S (.map (some b)) (.int .i64 p') root n size ∧ (0 ≤ p' ∧ p' ≤ 2000) ∧ w.heap.size ≤ b ∧ MapIs w' b M' ∧ Touch (fun x => x = S) w w' := by
  have hlt := hS.lt
  have hbS : w.heap.size ≠ S := by omega
  have ta : Touch (fun _ => False) w (w.alloc (.map #[] 0)) := (Touch.refl (fun _ => False) w).alloc _
  obtain ⟨w0, hw0⟩ : ∃ w0, w0 = (w.setCell ⟨S, 0, none⟩ (.map (some w.heap.size))).alloc (.map #[] 0) := ⟨_, rfl⟩
  have hS0 : SetRow w0 S (.map (some w.heap.size)) (.int .i64 p) root n size := by rw [hw0]; exact (hS.set0 _).touch ((Touch.refl (fun _ => False) _).alloc _) id
  have t0 : Touch (· = S) w w0 := by rw [hw0]; exact ((Touch.refl (· = S) w).setCell (fun _ => rfl)).alloc _
  have hm : MapIs w0 w.heap.size [] := by rw [hw0]; have e := MapIs.made (w.setCell ⟨S, 0, none⟩ (.map (some w.heap.size))); simpa using e
  obtain ⟨w1, hrun, hm1, t1⟩ := hm.store hk (by unfold maxLen; simp) hp
  have hl0 := fun ty => hm.len ty
  have hl1 := fun ty => hm1.len ty
  have hl2 := fun ty => (hm1.touch ((Touch.refl (fun _ => False) w1).drew) id).len ty
  have hS1 := hS0.touch t1 (fun e => hbS e.symm)
  have hM' : M'.length = 1 := by have := hp.len; simpa [look] using this
  rw [hM'] at hl1 hl2
  have c0 := hS.c0
  have a0 := (hS.touch ta id).c0
  have af := (hS.touch ta id).fz 0
  have b0 := hS0.c0
  have d0 := hS1.c0
  have d1 := hS1.c1
  have df := hS1.fz 1
  have he := eql52
  have hmm := @run_makeMap Yba.prog
  rw [hw0] at hl0 hrun b0
  go_enter Yba.func21, Yba.ntmps21
  go_upto_region 5 with fail
  obtain ⟨q, hq⟩ : ∃ q : Int, q = max p 1 := ⟨_, rfl⟩
  go_cut [7] from 28 to 40 (fun x wx => x = .int .i64 0 ∧ wx = (w1.setCell ⟨S, 1, none⟩ (.int .i64 q)).drew)
  case first =>
    go_region
    all_goals (go_wp2_with fail; go_meet; exact ⟨rfl, by rw [hq]⟩)
  case rest =>
    obtain ⟨rfl, hwc⟩ := hcut
    have hSc : SetRow wc S (.map (some w.heap.size)) (.int .i64 q) root n size := by
      rw [hwc]
      exact (hS1.set1 (.int .i64 q)).touch ((Touch.refl (fun _ => False) _).drew) id
    have tc : Touch (fun x => x = S) w1 wc := by rw [hwc]; exact ((Touch.refl (· = S) w1).setCell (fun _ => rfl)).drew
    have hmc := hm1.touch tc hbS
    have hlc := fun ty => hmc.len ty
    rw [hM'] at hlc
    have e0 := hSc.c0
    clear hwc hM'
    go_wp2_with fail
    go_ret
    refine ⟨rfl, w.heap.size, q, hSc, by omega, Nat.le_refl _, hmc, (t0.trans t1 (fun x hx e => by omega)).trans tc (fun _ _ e => e)⟩

/-- What the map's Set and Delete leave. -/
structure MapDone (S : Nat) (m root n size : Value) (M' : List (Key × Value)) (w : World) (m' : Value) (p' : Int) (w' : World) : Prop where
  row : SetRow w' S m' (.int .i64 p') root n size
  pk : 0 ≤ p' ∧ p' ≤ 2000
  fld : MapField w' m' M'
  blk : ∀ x ∈ mblk m', x ∈ mblk m ∨ w.heap.size ≤ x
  tc : Touch (fun x => x = S ∨ x ∈ mblk m) w w'

theorem set_any (S : Nat) (m : Value) (p : Int) (root n size v : Value) (M M' : List (Key × Value)) (k : Key) (w : World) (hS : SetRow w S m (.int .i64 p) root n size) (hm : MapField w m M) (hbS : S ∉ mblk m) (hk : k.size ≤ maxLen) (hn : M.length ≤ 1024) (hp : Puts M k v M') (hp0 : 0 ≤ p ∧ p ≤ 2000) :
    Calls Yba.prog 21 #[.pointer (some ⟨S, 0, none⟩), .string k, v] w fun e w' => e = .returned (.bool (look M k).isNone) ∧ ∃ m' p', MapDone S m root n size M' w m' p' w' := by
  rcases hm with ⟨rfl, rfl⟩ | ⟨b, rfl, hm⟩
  · refine (set_nil S p root n size v M' k w hS hk hp hp0).mono ?_
    rintro e w' ⟨rfl, b, p', h1, h2, h3, h4, h5⟩
    exact ⟨rfl, .map (some b), p', h1, h2, .inr ⟨b, rfl, h4⟩, fun x hx => by simp [mblk] at hx; subst hx; exact .inr h3, h5.mono (fun _ _ e => .inl e)⟩
  · refine (set_some S b p root n size v M M' k w hS hm (fun e => hbS (by simp [mblk, e])) hk hn hp hp0).mono ?_
    rintro e w' ⟨rfl, p', h1, h2, h4, h5⟩
    exact ⟨rfl, .map (some b), p', h1, h2, .inr ⟨b, rfl, h4⟩, fun x hx => .inl hx, h5.mono (fun x _ e => e.elim .inl (fun e => .inr (by simp [mblk, e])))⟩

theorem dels_nil {k : Key} {M' : List (Key × Value)} (h : Dels [] k M') : M' = [] := by
  have e := h.len
  simp [look] at e
  exact e

theorem mdelete_nil (S : Nat) (p : Int) (root n size : Value) (M' : List (Key × Value)) (k : Key) (w : World) (hS : SetRow w S (.map none) (.int .i64 p) root n size) (hk : k.size ≤ maxLen) (hp : Dels [] k M') (hp0 : 0 ≤ p ∧ p ≤ 2000) :
    Calls Yba.prog 23 #[.pointer (some ⟨S, 0, none⟩), .string k] w fun e w' => e = .returned (.bool false) ∧ ∃ m' p', MapDone S (.map none) root n size M' w m' p' w' := by
  have hl := fun ty => Maps.len_nil (P := Yba.prog) (w := w) Yba.underlying52 ty
  have hd := fun ty => Maps.drop_nil (P := Yba.prog) (w := w) law9 Yba.underlying52 (keyOf9 hk) ty
  have c0 := hS.c0
  have hM := dels_nil hp
  go_enter Yba.func23, Yba.ntmps23
  go_wp2_with fail
  go_ret
  exact ⟨rfl, .map none, p, hS, hp0, .inl ⟨rfl, hM⟩, fun x hx => by simp [mblk] at hx, Touch.refl _ w⟩

set_option maxHeartbeats 2000000 in
set_option maxRecDepth 100000 in
theorem mdelete_some (S b : Nat) (p : Int) (root n size : Value) (M M' : List (Key × Value)) (k : Key) (w : World) (hS : SetRow w S (.map (some b)) (.int .i64 p) root n size) (hm : MapIs w b M) (hbS : b ≠ S) (hk : k.size ≤ maxLen) (hn0 : M.length ≤ 1024) (hp : Dels M k M') (hp0 : 0 ≤ p ∧ p ≤ 2000) :
    Calls Yba.prog 23 #[.pointer (some ⟨S, 0, none⟩), .string k] w fun e w' => e = .returned (.bool (look M k).isSome) ∧ ∃ m' p', MapDone S (.map (some b)) root n size M' w m' p' w' := by
  have hn : M.length ≤ 1024 := hn0
  have hlen := hp.len
  have hl := fun ty => hm.len ty
  have hdr : ∃ w1, (∀ ty, (Builtin.delete_ #[52, 9] ty #[.map (some b), .string k]).run Yba.prog w = .ok (.tuple #[]) w1) ∧ MapIs w1 b M' ∧ Touch (· = b) w w1 := by
    obtain ⟨w1, h1, h2, h3⟩ := hm.drop hk hp 0
    exact ⟨w1, fun ty => by rw [← h1]; rfl, h2, h3⟩
  obtain ⟨w1, hrun, hm1, t1⟩ := hdr
  have hl1 := fun ty => hm1.len ty
  have hS1 := hS.touch t1 (fun e => hbS e.symm)
  have c0 := hS.c0
  have d0 := hS1.c0
  have d1 := hS1.c1
  have df0 := hS1.fz 0
  have df1 := hS1.fz 1
  have t1' : Touch (fun x => x = S ∨ x ∈ mblk (.map (some b))) w w1 := t1.mono (fun x _ e => .inr (by simp [mblk, e]))
  go_enter Yba.func23, Yba.ntmps23
  cases hlk : look M k with
  | none =>
    rw [hlk] at hlen
    simp at hlen
    have hlen' : (M'.length : Int) = (M.length : Int) := by omega
    clear hlen
    go_wp2_with fail
    go_ret
    exact ⟨rfl, _, p, hS1, hp0, .inr ⟨b, rfl, hm1⟩, fun x hx => .inl hx, t1'⟩
  | some u =>
    rw [hlk] at hlen
    simp at hlen
    have hlen' : ¬ (M'.length : Int) = (M.length : Int) := by omega
    have hlen'' : ¬ M'.length = M.length := by omega
    clear hlen
    go_upto_region 6 with fail
    by_cases h1 : p < 64
    · go_wp2_with fail
      go_ret
      exact ⟨rfl, _, p, hS1, hp0, .inr ⟨b, rfl, hm1⟩, fun x hx => .inl hx, t1'⟩
    · by_cases h2 : p / 4 < (M'.length : Int)
      · go_wp2_with fail
        go_ret
        exact ⟨rfl, _, p, hS1, hp0, .inr ⟨b, rfl, hm1⟩, fun x hx => .inl hx, t1'⟩
      · have h2' : (M'.length : Int) ≤ p / 4 := by omega
        have hmk : (Instr.makeMap 52 (some (.int .i64 (M'.length : Int)))).run Yba.prog w1 = .ok (.map (some w1.heap.size)) (w1.alloc (.map #[] 0)) := by
          simp [Instr.makeMap, asInt, asIntOf]
        have ta : Touch (fun _ => False) w1 (w1.alloc (.map #[] 0)) := (Touch.refl (fun _ => False) w1).alloc _
        have hSa := hS1.touch ta id
        have a0 := hSa.c0
        have hlt := hS1.lt
        have hltb := hm1.lt
        have CC := copy_any w1.heap.size b M' (w1.alloc (.map #[] 0)) (MapIs.made w1) (hm1.touch ta id) (by omega) (by unfold maxLen; omega)
        clear hlen' hlen''
        go_wp2_with (go_at_call 33; refine CC.mono ?_; rintro e w2 ⟨rfl, hm2, t2⟩; have hS2 := hSa.touch t2 (fun e => by omega); have e0 := hS2.c0; have e1 := hS2.c1; have ef0 := hS2.fz 0; have ef1 := hS2.fz 1; have g1 := (hS2.set0 (.map (some w1.heap.size))).c1; have gf1 := (hS2.set0 (.map (some w1.heap.size))).fz 1)
        go_ret
        have z1 : w.heap.size ≤ w1.heap.size := t1.size
        have tf : Touch (· = S) w2 ((w2.setCell ⟨S, 0, none⟩ (.map (some w1.heap.size))).setCell ⟨S, 1, none⟩ (.int .i64 (M'.length : Int))) := ((Touch.refl (· = S) w2).setCell (fun _ => rfl)).setCell (fun _ => rfl)
        refine ⟨rfl, .map (some w1.heap.size), (M'.length : Int), (hS2.set0 _).set1 _, by omega, .inr ⟨_, rfl, hm2.touch tf (by omega)⟩, fun x hx => by simp [mblk] at hx; subst hx; exact .inr z1, ?_⟩
        exact ((t1'.trans ta (fun _ _ e => e.elim)).trans t2 (fun x hx e => by omega)).trans tf (fun _ _ e => .inl e)

theorem mdelete_any (S : Nat) (m : Value) (p : Int) (root n size : Value) (M M' : List (Key × Value)) (k : Key) (w : World) (hS : SetRow w S m (.int .i64 p) root n size) (hm : MapField w m M) (hbS : S ∉ mblk m) (hk : k.size ≤ maxLen) (hn : M.length ≤ 1024) (hp : Dels M k M') (hp0 : 0 ≤ p ∧ p ≤ 2000) :
    Calls Yba.prog 23 #[.pointer (some ⟨S, 0, none⟩), .string k] w fun e w' => e = .returned (.bool (look M k).isSome) ∧ ∃ m' p', MapDone S m root n size M' w m' p' w' := by
  rcases hm with ⟨rfl, rfl⟩ | ⟨b, rfl, hm⟩
  · exact mdelete_nil S p root n size M' k w hS hk hp hp0
  · exact mdelete_some S b p root n size M M' k w hS hm (fun e => hbS (by simp [mblk, e])) hk hn hp hp0
end Go.Proofs.Ybulkbhty.Tree
