import Derived.Test.YbulkbhtyT1
import Derived.Shelf.Spec.SlicesInsert
import Derived.Deep.OwnRows
import Derived.Deep.Cut
import Derived.BigRegion
namespace Go.Proofs.Ybulkbhty.Tree
open Go.RowKit Go.WideShapes Go.Lib

/-! ### What a call may turn: the blocks of F, and new ones -/
structure Touch (F : Nat → Prop) (w w' : World) : Prop where
  os : w'.os = w.os
  tape : w'.tape = w.tape
  output : w'.output = w.output
  size : w.heap.size ≤ w'.heap.size
  block : ∀ k, k < w.heap.size → ¬ F k → w'.heap[k]? = w.heap[k]?
namespace Touch
variable {F G : Nat → Prop} {w w' w'' : World}
theorem refl (F : Nat → Prop) (w : World) : Touch F w w := ⟨rfl, rfl, rfl, Nat.le_refl _, fun _ _ _ => rfl⟩
theorem trans (h : Touch F w w') (k : Touch G w' w'') (hG : ∀ x, x < w.heap.size → G x → F x) : Touch F w w'' :=
  ⟨k.os.trans h.os, k.tape.trans h.tape, k.output.trans h.output, Nat.le_trans h.size k.size, fun i hi hF => (k.block i (Nat.lt_of_lt_of_le hi h.size) (fun hg => hF (hG i hi hg))).trans (h.block i hi hF)⟩
theorem mono (h : Touch F w w') (hG : ∀ x, x < w.heap.size → F x → G x) : Touch G w w' := ⟨h.os, h.tape, h.output, h.size, fun k hk hg => h.block k hk (fun hf => hg (hG k hk hf))⟩
theorem drewN (h : Touch F w w') (n : Nat) : Touch F w (w'.drewN n) := ⟨h.os, h.tape, h.output, h.size, h.block⟩
theorem drew (h : Touch F w w') : Touch F w w'.drew := ⟨h.os, h.tape, h.output, h.size, h.block⟩
theorem alloc (h : Touch F w w') (o : Obj) : Touch F w (w'.alloc o) :=
  h.trans (G := fun _ => False) ⟨rfl, rfl, rfl, by simp, fun k hk _ => Deep.blk_alloc_lt _ _ _ hk⟩ (fun _ _ h => h.elim)
theorem setCell (h : Touch F w w') {b o : Nat} {v : Value} (hb : b < w.heap.size → F b) : Touch F w (w'.setCell ⟨b, o, none⟩ v) := by
  have hB : Below 0 w' (w'.setCell ⟨b, o, none⟩ v) := (Below.refl 0 w').setCell (p := ⟨b, o, none⟩) (Nat.zero_le _) v
  refine ⟨hB.os.trans h.os, hB.tape.trans h.tape, hB.output.trans h.output, Nat.le_trans h.size hB.size, fun k hk hF => ?_⟩
  have hkb : k ≠ b := fun e => hF (e ▸ hb (e ▸ hk))
  rcases Nat.lt_or_gt_of_ne hkb with hlt | hgt
  · exact (((Below.refl b w').setCell (p := ⟨b, o, none⟩) (Nat.le_refl _) v).block k hlt).trans (h.block k hk hF)
  · refine Eq.trans ?_ (h.block k hk hF)
    simp [World.setCell, Array.getElem?_modify, Nat.ne_of_lt hgt]
theorem setCells (h : Touch F w w') {b : Nat} (hb : b < w.heap.size → F b) : ∀ (vs : List Value) (o : Nat), Touch F w (w'.setCells b o vs) := by
  intro vs
  induction vs generalizing w' with
  | nil => intro o; exact h
  | cons v r ih => intro o; exact ih (h.setCell hb) (o + 1)
theorem below (h : Touch F w w') {B : Nat} (hB : B ≤ w.heap.size) (hF : ∀ k, k < B → ¬ F k) : Below B w w' := ⟨h.os, h.tape, h.output, h.size, fun k hk => h.block k (Nat.lt_of_lt_of_le hk hB) (hF k hk)⟩
theorem row (h : Touch F w w') {b t n : Nat} {f : Nat → Value} (hr : w.rowIs b t n f) (hF : ¬ F b) : w'.rowIs b t n f := by
  obtain ⟨c, hc, h1, h2⟩ := hr
  have hlt : b < w.heap.size := by
    rcases Nat.lt_or_ge b w.heap.size with h' | h'
    · exact h'
    · simp [Array.getElem?_eq_none h'] at hc
  exact ⟨c, (h.block b hlt hF).trans hc, h1, h2⟩
end Touch

theorem row_lt {w : World} {b t n : Nat} {f : Nat → Value} (hr : w.rowIs b t n f) : b < w.heap.size := by
  obtain ⟨c, hc, _⟩ := hr
  rcases Nat.lt_or_ge b w.heap.size with h' | h'
  · exact h'
  · simp [Array.getElem?_eq_none h'] at hc

theorem row_setCells {w : World} {b t n : Nat} {f : Nat → Value} (h : w.rowIs b t n f) : ∀ (vs : List Value) (o : Nat), (w.setCells b o vs).rowIs b t n (fun j => if o ≤ j ∧ j < o + vs.length then vs.getD (j - o) .nilIface else f j) := by
  intro vs
  induction vs generalizing w f with
  | nil => intro o; exact h.congr fun j _ => by rw [if_neg (fun hh => by have h2 := hh.2; rw [List.length_nil] at h2; omega)]
  | cons v r ih =>
    intro o
    refine (ih (h.set o v) (o + 1)).congr fun j _ => ?_
    by_cases hj : j = o
    · subst hj
      rw [if_neg (by omega), if_pos rfl, if_pos (by simp)]
      simp
    · by_cases hin : o + 1 ≤ j ∧ j < o + 1 + r.length
      · rw [if_pos hin, if_pos (by simp; omega)]
        obtain ⟨d, hd⟩ : ∃ d, j - o = d + 1 := ⟨j - o - 1, by omega⟩
        rw [hd, List.getD_cons_succ, show j - (o + 1) = d by omega]
      · rw [if_neg hin, if_neg hj, if_neg (by simp; omega)]

theorem one_get {α : Type} {v u : α} {j : Nat} (h : [v][j]? = some u) : j = 0 ∧ u = v := by
  cases j with
  | zero => simp at h; exact ⟨rfl, h.symm⟩
  | succ j => simp at h

/-- A row of 'cap' cells whose first hold xs. -/
def Vec (w : World) (b t cap : Nat) (xs : List Value) : Prop := ∃ f, w.rowIs b t cap f ∧ xs.length ≤ cap ∧ ∀ j v, xs[j]? = some v → f j = v

namespace Vec
variable {w w' : World} {b t cap : Nat} {xs : List Value}
theorem lt (h : Vec w b t cap xs) : b < w.heap.size := by obtain ⟨f, hr, _⟩ := h; exact row_lt hr
theorem cell (h : Vec w b t cap xs) {j : Nat} {v : Value} (hj : xs[j]? = some v) : w.cell? ⟨b, j, none⟩ = some v := by
  obtain ⟨f, hr, hl, hf⟩ := h
  have hlt : j < xs.length := by
    rcases Nat.lt_or_ge j xs.length with h' | h'
    · exact h'
    · simp [List.getElem?_eq_none h'] at hj
  rw [hr.cell (by omega), hf j v hj]
theorem some (h : Vec w b t cap xs) {j : Nat} (hj : j < cap) : (w.cell? ⟨b, j, none⟩).isSome = true := by
  obtain ⟨f, hr, _⟩ := h
  rw [hr.cell hj]; rfl
theorem frozen (h : Vec w b t cap xs) (j : Nat) : w.frozen? ⟨b, j, none⟩ = false := by obtain ⟨f, hr, _⟩ := h; exact hr.frozen j
theorem touch {F : Nat → Prop} (h : Vec w b t cap xs) (ht : Touch F w w') (hF : ¬ F b) : Vec w' b t cap xs := by obtain ⟨f, hr, hl, hf⟩ := h; exact ⟨f, ht.row hr hF, hl, hf⟩
theorem shape (h : Vec w b t cap xs) : w.shape? b = Option.some (t, cap) := by
  obtain ⟨f, ⟨c, hc, h1, _⟩, _⟩ := h
  simp [World.shape?, hc, h1]
end Vec

theorem info9 : (Yba.prog.info? 9).map (fun i => (i.zero, i.size, i.bytes)) = some (some (.string ⟨#[]⟩), 1, 16) := by kernel_rfl
theorem info55 : (Yba.prog.info? 55).map (fun i => (i.zero, i.size, i.bytes)) = some (some (.pointer none), 1, 8) := by kernel_rfl
theorem sizeOf9 (w : World) : (Go.sizeOf 9).run Yba.prog w = .ok 1 w := by kernel_rfl
theorem sizeOf55 (w : World) : (Go.sizeOf 55).run Yba.prog w = .ok 1 w := by kernel_rfl
theorem size9 : (Yba.prog.info? 9).map (·.size) = some 1 := by kernel_rfl
theorem size55 : (Yba.prog.info? 55).map (·.size) = some 1 := by kernel_rfl

set_option maxHeartbeats 4000000 in
set_option maxRecDepth 100000 in
theorem insertStr (b cap i vb : Nat) (xs : List Value) (v : Value) (w : World) (hV : Vec w b 9 cap xs) (hi : i ≤ xs.length) (hroom : xs.length + 1 ≤ cap) (hc64 : cap ≤ 64) (hv : Vec w vb 9 1 [v]) (hvb : vb ≠ b) (h1 : ∀ x ∈ xs, x.oneCell' = true) (h1v : v.oneCell' = true) :
    Calls Yba.prog 37 #[.slice (some ⟨b, 0, none⟩) xs.length cap, .int .i64 (i : Int), .slice (some ⟨vb, 0, none⟩) 1 1] w fun e w' =>
      e = .returned (.slice (some ⟨b, 0, none⟩) (xs.length + 1) cap) ∧ Vec w' b 9 cap (xs.take i ++ v :: xs.drop i) ∧ Touch (· = b) w w' := by
  obtain ⟨n, hn⟩ : ∃ n, n = xs.length := ⟨_, rfl⟩
  rw [← hn] at hi hroom ⊢
  have vc := hv.cell (j := 0) (v := v) rfl
  by_cases hin : i = n
  · have hsrc : Src Yba.prog 1 70 (.slice (some ⟨vb, 0, none⟩) 1 1) 1 [v] w := Src.ofSlice w Yba.underlying70 ⟨vb, 0, none⟩ 1 1 [v] (by first | rfl | simp) (fun j u hj => by
      obtain ⟨rfl, rfl⟩ := one_get hj
      rw [Addr.add_lit]; exact vc) (fun u hu => by simp at hu; subst hu; exact h1v)
    have R : Vec (w.setCells b n [v]) b 9 cap (xs ++ [v]) := by
      obtain ⟨f, hr, hl, hf⟩ := hV
      refine ⟨_, row_setCells hr [v] n, by simp; omega, fun j u hj => ?_⟩
      by_cases hj2 : j < xs.length
      · rw [List.getElem?_append_left hj2] at hj
        rw [if_neg (by omega)]
        exact hf j u hj
      · rw [List.getElem?_append_right (by omega)] at hj
        obtain ⟨h0, rfl⟩ := one_get hj
        obtain rfl : j = n := by omega
        rw [if_pos (by simp)]
        simp
    have T : Touch (· = b) w (w.setCells b n [v]) := (Touch.refl (· = b) w).setCells (fun _ => rfl) _ _
    have hx : xs.take i ++ v :: xs.drop i = xs ++ [v] := by rw [hin, hn]; simp
    rw [hx]
    have hspx : ∀ j, j < [v].length → (w.cell? ⟨b, 0 + n + j, none⟩).isSome = true := fun j hj => by simp at hj; rw [hj]; exact hV.some (by omega)
    have hfzx : ∀ j, j < [v].length → w.frozen? ⟨b, 0 + n + j, none⟩ = false := fun j _ => hV.frozen _
    subst hin
    clear hV hv vc hn
    go_enter Yba.func37, Yba.ntmps37
    go_wp2_with (at_builtin; refine wpList_append_room1 _ rfl _ _ 70 70 rfl 9 _ _ Yba.underlying70 info9 b 0 i cap rfl _ rfl 1 [v] hsrc (by omega) hspx hfzx ?_)
    go_ret
    refine ⟨rfl, ?_, ?_⟩
    · simpa using R
    · simpa using T
  · have hi' : i < n := by omega
    have hov : ∀ lb cb, (callFunc 47 #[.slice (some ⟨vb, 0, none⟩) 1 1, .slice (some ⟨b, i + 1, none⟩) lb cb]).run Yba.prog w = .ok (.value (.bool false)) w := fun lb cb => by
      rw [run_callFunc_extern Yba.func47 (by kernel_rfl) (by kernel_rfl) (by kernel_rfl) (e := Extern.SlicesOverlaps.overlaps #[70, 70] #[4]) (by kernel_rfl),
        Lib.run_overlaps_apart w 70 4 9 Yba.underlying70 1 sizeOf9 ⟨vb, 0, none⟩ ⟨b, i + 1, none⟩ 1 1 lb cb hvb 9 9 1 cap hv.shape hV.shape (by omega) (hv.frozen 0) (hv.frozen 1)]
      rfl
    have hdl : (xs.drop i).length = n - i := by rw [List.length_drop, hn]
    have hcp1 : ∀ ty dc sc, (Builtin.copy_ #[70, 70] ty #[.slice (some ⟨b, i + 1, none⟩) (n - i) dc, .slice (some ⟨b, i, none⟩) (n + 1 - i) sc]).run Yba.prog w.drew = .ok (goInt (xs.drop i).length) (w.drew.setCells b (i + 1) (xs.drop i)) := fun ty dc sc =>
      run_copy_cells w.drew _ _ ty 9 b (i + 1) (n - i) dc ⟨b, i, none⟩ (n + 1 - i) sc (xs.drop i) Yba.underlying70 size9 (by rw [hdl]; simp only [Nat.min_def]; split <;> omega)
        (fun j u hj => by rw [Addr.add_lit]; rw [List.getElem?_drop] at hj; exact hV.cell hj)
        (fun j hj => hV.some (by omega)) (fun j hj => hV.frozen _) (fun u hu => h1 u (List.mem_of_mem_drop hu))
    obtain ⟨W1, hW1⟩ : ∃ W1, W1 = w.drew.setCells b (i + 1) (xs.drop i) := ⟨_, rfl⟩
    have T1 : Touch (· = b) w W1 := by rw [hW1]; exact ((Touch.refl (· = b) w).drew).setCells (fun _ => rfl) _ _
    have v1 := hv.touch T1 hvb
    obtain ⟨f, hr, hl, hf⟩ := hV
    have r1 := row_setCells (w := w.drew) hr (xs.drop i) (i + 1)
    rw [← hW1] at r1
    have sp1 : ∀ k, k < cap → (W1.cell? ⟨b, k, none⟩).isSome = true := fun k hk => by rw [r1.cell hk]; rfl
    have fz1 : ∀ k, W1.frozen? ⟨b, k, none⟩ = false := fun k => r1.frozen k
    have RR : Vec (W1.setCells b i [v]) b 9 cap (xs.take i ++ v :: xs.drop i) := by
      refine ⟨_, row_setCells r1 [v] i, by simp; omega, fun j u hj => ?_⟩
      by_cases hj1 : j < i
      · rw [if_neg (by omega), if_neg (by omega)]
        rw [List.getElem?_append_left (by simp; omega), List.getElem?_take_of_lt hj1] at hj
        exact hf j u hj
      · rw [List.getElem?_append_right (by simp; omega), show (xs.take i).length = i by simp; omega] at hj
        by_cases hj2 : j = i
        · subst hj2
          simp at hj
          rw [if_pos (by simp)]
          simp [hj]
        · obtain ⟨e, he⟩ : ∃ e, j - i = e + 1 := ⟨j - i - 1, by omega⟩
          rw [he, List.getElem?_cons_succ] at hj
          have hel : e < (xs.drop i).length := by
            rcases Nat.lt_or_ge e (xs.drop i).length with h | h
            · exact h
            · simp [List.getElem?_eq_none h] at hj
          rw [if_neg (by simp; omega), if_pos (by omega), show j - (i + 1) = e by omega, List.getD_eq_getElem?_getD, hj]
          rfl
    have TT : Touch (· = b) w (W1.setCells b i [v]) := T1.setCells (fun _ => rfl) _ _
    have hcp2 : ∀ ty dc, (Builtin.copy_ #[70, 70] ty #[.slice (some ⟨b, i, none⟩) (n + 1 - i) dc, .slice (some ⟨vb, 0, none⟩) 1 1]).run Yba.prog W1 = .ok (goInt [v].length) (W1.setCells b i [v]) := fun ty dc =>
      run_copy_cells W1 _ _ ty 9 b i (n + 1 - i) dc ⟨vb, 0, none⟩ 1 1 [v] Yba.underlying70 size9 (by simp only [Nat.min_def, List.length_cons, List.length_nil]; split <;> omega)
        (fun j u hj => by
          obtain ⟨rfl, rfl⟩ := one_get hj
          rw [Addr.add_lit]; exact v1.cell rfl)
        (fun j hj => sp1 _ (by simp at hj; omega)) (fun j hj => fz1 _) (fun u hu => by simp at hu; subst hu; exact h1v)
    rw [← hW1] at hcp1
    clear r1 sp1 fz1 hr hf v1 T1 hW1 hn h1 hv vc hdl hl
    go_enter Yba.func37, Yba.ntmps37
    go_wp2_with (simp only [hov])
    have hw1 : IntKind.i64.wrap ((i : Int) + 1) = (i : Int) + 1 := by rw [IntKind.wrap_i64]; omega
    have hb1 : (0 : Int) ≤ (i : Int) + 1 := by omega
    have htn : ((i : Int) + 1).toNat = i + 1 := by omega
    have hb2 : ¬ (cap = i + 1) := by omega
    have hb3 : (i : Int) ≤ (n : Int) + 1 := by omega
    have hb4 : ¬ (cap = i) := by omega
    have hin2 : i ≤ n + 1 := by omega
    have mixed : Yba.prog.follows .mixedOrders = true := by kernel_rfl
    go_region_law_o (refine step_copy_runI rfl _ _ 70 70 rfl _ _ (by simp [Act.eval, Act.put]) (by simp [Act.eval, Act.put]) (hcp1 _ _ _) ?_)
    go_wp2_with (at_builtin; refine wpList_copy_runI _ rfl _ _ 70 70 rfl _ _ rfl rfl (hcp2 _ _) ?_)
    go_ret
    exact ⟨rfl, RR, TT⟩

set_option maxHeartbeats 4000000 in
set_option maxRecDepth 100000 in
theorem insertPtr (b cap i vb : Nat) (xs : List Value) (v : Value) (w : World) (hV : Vec w b 55 cap xs) (hi : i ≤ xs.length) (hroom : xs.length + 1 ≤ cap) (hc64 : cap ≤ 64) (hv : Vec w vb 55 1 [v]) (hvb : vb ≠ b) (h1 : ∀ x ∈ xs, x.oneCell' = true) (h1v : v.oneCell' = true) :
    Calls Yba.prog 38 #[.slice (some ⟨b, 0, none⟩) xs.length cap, .int .i64 (i : Int), .slice (some ⟨vb, 0, none⟩) 1 1] w fun e w' =>
      e = .returned (.slice (some ⟨b, 0, none⟩) (xs.length + 1) cap) ∧ Vec w' b 55 cap (xs.take i ++ v :: xs.drop i) ∧ Touch (· = b) w w' := by
  obtain ⟨n, hn⟩ : ∃ n, n = xs.length := ⟨_, rfl⟩
  rw [← hn] at hi hroom ⊢
  have vc := hv.cell (j := 0) (v := v) rfl
  by_cases hin : i = n
  · have hsrc : Src Yba.prog 1 71 (.slice (some ⟨vb, 0, none⟩) 1 1) 1 [v] w := Src.ofSlice w Yba.underlying71 ⟨vb, 0, none⟩ 1 1 [v] (by first | rfl | simp) (fun j u hj => by
      obtain ⟨rfl, rfl⟩ := one_get hj
      rw [Addr.add_lit]; exact vc) (fun u hu => by simp at hu; subst hu; exact h1v)
    have R : Vec (w.setCells b n [v]) b 55 cap (xs ++ [v]) := by
      obtain ⟨f, hr, hl, hf⟩ := hV
      refine ⟨_, row_setCells hr [v] n, by simp; omega, fun j u hj => ?_⟩
      by_cases hj2 : j < xs.length
      · rw [List.getElem?_append_left hj2] at hj
        rw [if_neg (by omega)]
        exact hf j u hj
      · rw [List.getElem?_append_right (by omega)] at hj
        obtain ⟨h0, rfl⟩ := one_get hj
        obtain rfl : j = n := by omega
        rw [if_pos (by simp)]
        simp
    have T : Touch (· = b) w (w.setCells b n [v]) := (Touch.refl (· = b) w).setCells (fun _ => rfl) _ _
    have hx : xs.take i ++ v :: xs.drop i = xs ++ [v] := by rw [hin, hn]; simp
    rw [hx]
    have hspx : ∀ j, j < [v].length → (w.cell? ⟨b, 0 + n + j, none⟩).isSome = true := fun j hj => by simp at hj; rw [hj]; exact hV.some (by omega)
    have hfzx : ∀ j, j < [v].length → w.frozen? ⟨b, 0 + n + j, none⟩ = false := fun j _ => hV.frozen _
    subst hin
    clear hV hv vc hn
    go_enter Yba.func38, Yba.ntmps38
    go_wp2_with (at_builtin; refine wpList_append_room1 _ rfl _ _ 71 71 rfl 55 _ _ Yba.underlying71 info55 b 0 i cap rfl _ rfl 1 [v] hsrc (by omega) hspx hfzx ?_)
    go_ret
    refine ⟨rfl, ?_, ?_⟩
    · simpa using R
    · simpa using T
  · have hi' : i < n := by omega
    have hov : ∀ lb cb, (callFunc 49 #[.slice (some ⟨vb, 0, none⟩) 1 1, .slice (some ⟨b, i + 1, none⟩) lb cb]).run Yba.prog w = .ok (.value (.bool false)) w := fun lb cb => by
      rw [run_callFunc_extern Yba.func49 (by kernel_rfl) (by kernel_rfl) (by kernel_rfl) (e := Extern.SlicesOverlaps.overlaps #[71, 71] #[4]) (by kernel_rfl),
        Lib.run_overlaps_apart w 71 4 55 Yba.underlying71 1 sizeOf55 ⟨vb, 0, none⟩ ⟨b, i + 1, none⟩ 1 1 lb cb hvb 55 55 1 cap hv.shape hV.shape (by omega) (hv.frozen 0) (hv.frozen 1)]
      rfl
    have hdl : (xs.drop i).length = n - i := by rw [List.length_drop, hn]
    have hcp1 : ∀ ty dc sc, (Builtin.copy_ #[71, 71] ty #[.slice (some ⟨b, i + 1, none⟩) (n - i) dc, .slice (some ⟨b, i, none⟩) (n + 1 - i) sc]).run Yba.prog w.drew = .ok (goInt (xs.drop i).length) (w.drew.setCells b (i + 1) (xs.drop i)) := fun ty dc sc =>
      run_copy_cells w.drew _ _ ty 55 b (i + 1) (n - i) dc ⟨b, i, none⟩ (n + 1 - i) sc (xs.drop i) Yba.underlying71 size55 (by rw [hdl]; simp only [Nat.min_def]; split <;> omega)
        (fun j u hj => by rw [Addr.add_lit]; rw [List.getElem?_drop] at hj; exact hV.cell hj)
        (fun j hj => hV.some (by omega)) (fun j hj => hV.frozen _) (fun u hu => h1 u (List.mem_of_mem_drop hu))
    obtain ⟨W1, hW1⟩ : ∃ W1, W1 = w.drew.setCells b (i + 1) (xs.drop i) := ⟨_, rfl⟩
    have T1 : Touch (· = b) w W1 := by rw [hW1]; exact ((Touch.refl (· = b) w).drew).setCells (fun _ => rfl) _ _
    have v1 := hv.touch T1 hvb
    obtain ⟨f, hr, hl, hf⟩ := hV
    have r1 := row_setCells (w := w.drew) hr (xs.drop i) (i + 1)
    rw [← hW1] at r1
    have sp1 : ∀ k, k < cap → (W1.cell? ⟨b, k, none⟩).isSome = true := fun k hk => by rw [r1.cell hk]; rfl
    have fz1 : ∀ k, W1.frozen? ⟨b, k, none⟩ = false := fun k => r1.frozen k
    have RR : Vec (W1.setCells b i [v]) b 55 cap (xs.take i ++ v :: xs.drop i) := by
      refine ⟨_, row_setCells r1 [v] i, by simp; omega, fun j u hj => ?_⟩
      by_cases hj1 : j < i
      · rw [if_neg (by omega), if_neg (by omega)]
        rw [List.getElem?_append_left (by simp; omega), List.getElem?_take_of_lt hj1] at hj
        exact hf j u hj
      · rw [List.getElem?_append_right (by simp; omega), show (xs.take i).length = i by simp; omega] at hj
        by_cases hj2 : j = i
        · subst hj2
          simp at hj
          rw [if_pos (by simp)]
          simp [hj]
        · obtain ⟨e, he⟩ : ∃ e, j - i = e + 1 := ⟨j - i - 1, by omega⟩
          rw [he, List.getElem?_cons_succ] at hj
          have hel : e < (xs.drop i).length := by
            rcases Nat.lt_or_ge e (xs.drop i).length with h | h
            · exact h
            · simp [List.getElem?_eq_none h] at hj
          rw [if_neg (by simp; omega), if_pos (by omega), show j - (i + 1) = e by omega, List.getD_eq_getElem?_getD, hj]
          rfl
    have TT : Touch (· = b) w (W1.setCells b i [v]) := T1.setCells (fun _ => rfl) _ _
    have hcp2 : ∀ ty dc, (Builtin.copy_ #[71, 71] ty #[.slice (some ⟨b, i, none⟩) (n + 1 - i) dc, .slice (some ⟨vb, 0, none⟩) 1 1]).run Yba.prog W1 = .ok (goInt [v].length) (W1.setCells b i [v]) := fun ty dc =>
      run_copy_cells W1 _ _ ty 55 b i (n + 1 - i) dc ⟨vb, 0, none⟩ 1 1 [v] Yba.underlying71 size55 (by simp only [Nat.min_def, List.length_cons, List.length_nil]; split <;> omega)
        (fun j u hj => by
          obtain ⟨rfl, rfl⟩ := one_get hj
          rw [Addr.add_lit]; exact v1.cell rfl)
        (fun j hj => sp1 _ (by simp at hj; omega)) (fun j hj => fz1 _) (fun u hu => by simp at hu; subst hu; exact h1v)
    rw [← hW1] at hcp1
    clear r1 sp1 fz1 hr hf v1 T1 hW1 hn h1 hv vc hdl hl
    go_enter Yba.func38, Yba.ntmps38
    go_wp2_with (simp only [hov])
    have hw1 : IntKind.i64.wrap ((i : Int) + 1) = (i : Int) + 1 := by rw [IntKind.wrap_i64]; omega
    have hb1 : (0 : Int) ≤ (i : Int) + 1 := by omega
    have htn : ((i : Int) + 1).toNat = i + 1 := by omega
    have hb2 : ¬ (cap = i + 1) := by omega
    have hb3 : (i : Int) ≤ (n : Int) + 1 := by omega
    have hb4 : ¬ (cap = i) := by omega
    have hin2 : i ≤ n + 1 := by omega
    have mixed : Yba.prog.follows .mixedOrders = true := by kernel_rfl
    go_region_law_o (refine step_copy_runI rfl _ _ 71 71 rfl _ _ (by simp [Act.eval, Act.put]) (by simp [Act.eval, Act.put]) (hcp1 _ _ _) ?_)
    go_wp2_with (at_builtin; refine wpList_copy_runI _ rfl _ _ 71 71 rfl _ _ rfl rfl (hcp2 _ _) ?_)
    go_ret
    exact ⟨rfl, RR, TT⟩

end Go.Proofs.Ybulkbhty.Tree
