import Derived.Test.YbulkbhtyT3
import Derived.Deep.RegionHeld3
import Derived.Deep.QuietTactic
import Derived.BigQuiet
namespace Go.Proofs.Ybulkbhty.Tree
open Go.RowKit Go.WideShapes Go.Lib

theorem mk70 (w : World) : (Instr.makeSlice 70 (.int .i64 0) (.int .i64 63)).run Yba.prog w = .ok (.slice (some ⟨w.heap.size, 0, none⟩) 0 63) (w.alloc (.cells (madeCells #[.string ⟨#[]⟩] 63) 9)) := by
  obtain ⟨i, hi, hzz⟩ := Option.map_eq_some_iff.1 info9
  simp only [Prod.mk.injEq] at hzz
  obtain ⟨hz0, hz1, hz2⟩ := hzz
  have := run_make (P := Yba.prog) w 70 9 i _ Yba.underlying70 hi hz0 .i64 .i64 0 63 (by omega) (by omega) (by rw [hz2]; omega) (by omega)
  simp only [hz1, Value.cells] at this
  exact this
theorem mk71 (w : World) : (Instr.makeSlice 71 (.int .i64 0) (.int .i64 64)).run Yba.prog w = .ok (.slice (some ⟨w.heap.size, 0, none⟩) 0 64) (w.alloc (.cells (madeCells #[.pointer none] 64) 55)) := by
  obtain ⟨i, hi, hzz⟩ := Option.map_eq_some_iff.1 info55
  simp only [Prod.mk.injEq] at hzz
  obtain ⟨hz0, hz1, hz2⟩ := hzz
  have := run_make (P := Yba.prog) w 71 55 i _ Yba.underlying71 hi hz0 .i64 .i64 0 64 (by omega) (by omega) (by rw [hz2]; omega) (by omega)
  simp only [hz1, Value.cells] at this
  exact this

/-- A node: its owner is nil; its keys; its children. -/
def nodeCells (ks ch : Value) (j : Nat) : Value := if j = 0 then .pointer none else if j = 1 then ks else ch
def NodeAt (w : World) (p : Nat) (ks ch : Value) : Prop := w.rowIs p 73 3 (nodeCells ks ch)
namespace NodeAt
variable {w w' : World} {p : Nat} {ks ch v : Value}
theorem c0 (h : NodeAt w p ks ch) : w.cell? ⟨p, 0, none⟩ = some (.pointer none) := World.rowIs.cell h (by omega)
theorem c1 (h : NodeAt w p ks ch) : w.cell? ⟨p, 1, none⟩ = some ks := World.rowIs.cell h (by omega)
theorem c2 (h : NodeAt w p ks ch) : w.cell? ⟨p, 2, none⟩ = some ch := World.rowIs.cell h (by omega)
theorem fz (h : NodeAt w p ks ch) (j : Nat) : w.frozen? ⟨p, j, none⟩ = false := World.rowIs.frozen h j
theorem lt (h : NodeAt w p ks ch) : p < w.heap.size := row_lt h
theorem set1 (h : NodeAt w p ks ch) (v : Value) : NodeAt (w.setCell ⟨p, 1, none⟩ v) p v ch := (World.rowIs.set h 1 v).congr fun j hj => by
  rcases show j = 0 ∨ j = 1 ∨ j = 2 by omega with rfl | rfl | rfl <;> simp [nodeCells]
theorem set2 (h : NodeAt w p ks ch) (v : Value) : NodeAt (w.setCell ⟨p, 2, none⟩ v) p ks v := (World.rowIs.set h 2 v).congr fun j hj => by
  rcases show j = 0 ∨ j = 1 ∨ j = 2 by omega with rfl | rfl | rfl <;> simp [nodeCells]
theorem touch {F : Nat → Prop} (h : NodeAt w p ks ch) (ht : Touch F w w') (hF : ¬ F p) : NodeAt w' p ks ch := ht.row h hF
end NodeAt

theorem node_new (w : World) (ks ch : Value) : NodeAt (w.alloc (.cells #[.pointer none, ks, ch] 73)) w.heap.size ks ch :=
  World.rowIs_alloc w _ 73 _ fun i hi => by
    have hi3 : i < 3 := hi
    rcases show i = 0 ∨ i = 1 ∨ i = 2 by omega with rfl | rfl | rfl <;> rfl
theorem vec_new (w : World) (z : Value) (n t : Nat) : Vec (w.alloc (.cells (madeCells #[z] n) t)) w.heap.size t n [] := ⟨_, World.rowIs_made w z n t, Nat.zero_le _, fun j v h => by simp at h⟩

/-! ### newNode -/
set_option maxHeartbeats 1000000 in
theorem newLeaf (S : Nat) (w : World) (hO : w.cell? ⟨S, 4, none⟩ = some (.pointer none)) :
    Calls Yba.prog 29 #[.pointer (some ⟨S, 2, none⟩), .bool true] w fun e w' => ∃ p kb, e = .returned (.pointer (some ⟨p, 0, none⟩)) ∧ NodeAt w' p (.slice (some ⟨kb, 0, none⟩) 0 63) (.slice none 0 0) ∧ Vec w' kb 9 63 [] ∧ p ≠ kb ∧ w.heap.size ≤ p ∧ w.heap.size ≤ kb ∧ Touch (fun _ => False) w w' := by
  have hmk := mk70
  have hne := World.new_ne w ⟨S, 4, none⟩ hO
  go_enter Yba.func29, Yba.ntmps29
  go_wp2_with fail
  go_region_held3 (fun w' => w'.cell? ⟨S, 4, none⟩ = some (.pointer none)) (go_keep) (fail)
  go_wp2_with fail
  go_ret
  refine ⟨w.heap.size + 1, w.heap.size, rfl, ?_, ?_, by omega, by omega, Nat.le_refl _, (((Touch.refl _ w).alloc _).alloc _).drew⟩
  · show World.rowIs _ _ _ _ _
    simpa using World.rowIs.drew (node_new (w.alloc (.cells (madeCells #[.string ⟨#[]⟩] 63) 9)) _ _)
  · exact (vec_new w _ 63 9).touch ((Touch.refl (fun _ => False) _).alloc _ |>.drew) (fun h => h)
set_option maxHeartbeats 1000000 in
theorem newInner (S : Nat) (w : World) (hO : w.cell? ⟨S, 4, none⟩ = some (.pointer none)) :
    Calls Yba.prog 29 #[.pointer (some ⟨S, 2, none⟩), .bool false] w fun e w' => ∃ p kb cb, e = .returned (.pointer (some ⟨p, 0, none⟩)) ∧ NodeAt w' p (.slice (some ⟨kb, 0, none⟩) 0 63) (.slice (some ⟨cb, 0, none⟩) 0 64) ∧ Vec w' kb 9 63 [] ∧ Vec w' cb 55 64 [] ∧ p ≠ kb ∧ p ≠ cb ∧ kb ≠ cb ∧ w.heap.size ≤ p ∧ w.heap.size ≤ kb ∧ w.heap.size ≤ cb ∧ Touch (fun _ => False) w w' := by
  have hmk := mk70
  have hmk2 := mk71
  have hne := World.new_ne w ⟨S, 4, none⟩ hO
  go_enter Yba.func29, Yba.ntmps29
  go_wp2_with fail
  go_region_held3 (fun w' => w'.cell? ⟨S, 4, none⟩ = some (.pointer none)) (go_keep) (fail)
  go_wp2_with fail
  go_ret
  refine ⟨w.heap.size + 1, w.heap.size, w.heap.size + 1 + 1, rfl, ?_, ?_, ?_, by omega, by omega, by omega, by omega, Nat.le_refl _, by omega, ((((Touch.refl _ w).alloc _).alloc _).alloc _).drew⟩
  · show World.rowIs _ _ _ _ _
    have h := World.rowIs.alloc (node_new (w.alloc (.cells (madeCells #[.string ⟨#[]⟩] 63) 9)) (.slice (some ⟨w.heap.size, 0, none⟩) 0 63) (.slice (some ⟨w.heap.size + 1 + 1, 0, none⟩) 0 64)) (.cells (madeCells #[.pointer none] 64) 55)
    simpa using World.rowIs.drew h
  · exact (vec_new w _ 63 9).touch (((Touch.refl (fun _ => False) _).alloc _).alloc _ |>.drew) (fun h => h)
  · have h := vec_new ((w.alloc (.cells (madeCells #[.string ⟨#[]⟩] 63) 9)).alloc (.cells #[.pointer none, .slice (some ⟨w.heap.size, 0, none⟩) 0 63, .slice (some ⟨w.heap.size + 1 + 1, 0, none⟩) 0 64] 73)) (.pointer none) 64 55
    have h2 := h.touch ((Touch.refl (fun _ => False) _).drew) (fun h => h)
    simpa using h2

theorem setCell_same {w : World} {b o : Nat} {v : Value} (h : w.cell? ⟨b, o, none⟩ = some v) : w.setCell ⟨b, o, none⟩ v = w := by
  have hh : (w.setCell ⟨b, o, none⟩ v).heap = w.heap := by
    apply Array.ext_getElem?
    intro k
    simp only [World.setCell, Array.getElem?_modify]
    by_cases hk : b = k
    · subst hk
      simp only [if_true]
      cases hb : w.heap[b]? with
      | none => simp
      | some ob =>
        cases ob with
        | cells c t fr =>
          simp only [World.cell?, hb] at h
          have hc : c[o]? = some v := by simpa using h
          simp only [Option.map_some, Option.isSome_none, Bool.false_eq_true, if_false]
          congr 2
          apply Array.ext_getElem?
          intro j
          rw [Array.getElem?_setIfInBounds]
          by_cases hj : o = j
          · subst hj
            rw [if_pos rfl, hc]
            have : o < c.size := (Array.getElem?_eq_some_iff.1 hc).1
            simp [this]
          · rw [if_neg hj]
        | _ => rfl
    · simp [hk]
  show ({ w with heap := (w.setCell ⟨b, o, none⟩ v).heap } : World) = w
  rw [hh]

/-! ### mutable, child: every owner is nil -/
theorem mutable_any (S p : Nat) (ks ch : Value) (w : World) (hO : w.cell? ⟨S, 4, none⟩ = some (.pointer none)) (hN : NodeAt w p ks ch) :
    Calls Yba.prog 30 #[.pointer (some ⟨S, 2, none⟩), .pointer (some ⟨p, 0, none⟩)] w fun e w' => e = .returned (.pointer (some ⟨p, 0, none⟩)) ∧ ∃ n, w' = w.drewN n := by
  have c0 := hN.c0
  go_enter Yba.func30, Yba.ntmps30
  go_wp2_with fail
  go_quiet (fail)
  go_wp2_with fail
  go_ret
  exact ⟨rfl, nq, rfl⟩

/-- n's child i. -/
theorem child_any (S p cb i : Nat) (ks : Value) (xs : List Value) (c : Nat) (ks' ch' : Value) (w : World) (hO : w.cell? ⟨S, 4, none⟩ = some (.pointer none)) (hN : NodeAt w p ks (.slice (some ⟨cb, 0, none⟩) xs.length 64)) (hV : Vec w cb 55 64 xs) (hi : xs[i]? = some (.pointer (some ⟨c, 0, none⟩))) (hC : NodeAt w c ks' ch') :
    Calls Yba.prog 39 #[.pointer (some ⟨S, 2, none⟩), .pointer (some ⟨p, 0, none⟩), .int .i64 (i : Int)] w fun e w' => e = .returned (.pointer (some ⟨c, 0, none⟩)) ∧ ∃ n, w' = w.drewN n := by
  have c2 := hN.c2
  have ci := hV.cell hi
  have cf := hV.frozen i
  have hil : i < xs.length := (List.getElem?_eq_some_iff.1 hi).1
  have i0 : (0 : Int) ≤ (i : Int) := by omega
  have i1 : (i : Int) < xs.length := by omega
  have CM := fun W h1 h2 => mutable_any S c ks' ch' W h1 h2
  have hs : ∀ n, (w.drewN n).setCell ⟨cb, i, none⟩ (.pointer (some ⟨c, 0, none⟩)) = w.drewN n := fun n => setCell_same (w := w.drewN n) ci
  go_enter Yba.func39, Yba.ntmps39
  go_wp2_with fail
  go_region_held3 (fun w' => (w'.cell? ⟨p, 2, none⟩ = some (.slice (some ⟨cb, 0, none⟩) xs.length 64) ∧ w'.cell? ⟨cb, i, none⟩ = some (.pointer (some ⟨c, 0, none⟩)))) (go_keep) (first | (go_at_call 30; refine (CM _ ?_ ?_).mono ?_; (exact hO); (exact hC); rintro e w' ⟨rfl, n, rfl⟩))
  go_wp2_with fail
  go_ret
  exact ⟨rfl, _, rfl⟩
end Go.Proofs.Ybulkbhty.Tree
