import Derived.Test.YbulkbhtyT11
import Derived.Deep.CutRange
import Derived.BigQuiet
import Derived.Deep.Upon
namespace Go.Proofs.Ybulkbhty.Tree
open Go.RowKit Go.WideShapes Go.Lib

/-! ### Two leaves side by side -/
def seven (r : Rt) (l1 l2 : Lf) : List Nat := [r.p, r.kb, r.cb, l1.p, l1.kb, l2.p, l2.kb]
theorem pair_apart {r : Rt} {A C : List Lf} {l1 l2 : Lf} (hcs : r.cs = A ++ l1 :: l2 :: C) (h : r.blocks.Nodup) : (seven r l1 l2).Nodup ∧ ∀ l' ∈ A ++ C, l'.p ∉ seven r l1 l2 ∧ l'.kb ∉ seven r l1 l2 := by
  simp only [Rt.blocks, hcs, lblocks_append, lblocks_cons] at h
  have e : List.Perm (r.p :: r.kb :: r.cb :: (lblocks A ++ l1.p :: l1.kb :: l2.p :: l2.kb :: lblocks C)) (seven r l1 l2 ++ (lblocks A ++ lblocks C)) := by
    simp only [seven, List.cons_append, List.nil_append]
    refine .cons _ (.cons _ (.cons _ ?_))
    exact List.perm_middle.trans (.cons _ (List.perm_middle.trans (.cons _ (List.perm_middle.trans (.cons _ List.perm_middle)))))
  rw [e.nodup_iff, List.nodup_append] at h
  refine ⟨h.1, fun l' hl' => ?_⟩
  have hm : l'.p ∈ lblocks A ++ lblocks C ∧ l'.kb ∈ lblocks A ++ lblocks C := by
    rw [← lblocks_append]
    exact ⟨mem_lblocks.2 ⟨l', hl', .inl rfl⟩, mem_lblocks.2 ⟨l', hl', .inr rfl⟩⟩
  exact ⟨fun e => h.2.2 _ e _ hm.1 rfl, fun e => h.2.2 _ e _ hm.2 rfl⟩

theorem RootAt.pair {w w' : World} {r : Rt} {A C : List Lf} {l1 l2 : Lf} (h : RootAt w r) (hcs : r.cs = A ++ l1 :: l2 :: C) (ks1 ks2 ks' : List Key)
    (ht : Touch (· ∈ seven r l1 l2) w w') (hN : NodeAt w' r.p (.slice (some ⟨r.kb, 0, none⟩) ks'.length 63) (.slice (some ⟨r.cb, 0, none⟩) r.cs.length 64)) (hK : Vec w' r.kb 9 63 (ks'.map .string)) (hX : Vec w' r.cb 55 64 (r.cs.map Lf.ptr))
    (hl1 : LeafAt w' { l1 with ks := ks1 }) (hl2 : LeafAt w' { l2 with ks := ks2 }) (hlen : ks'.length = r.ks.length) :
    RootAt w' { r with ks := ks', cs := A ++ { l1 with ks := ks1 } :: { l2 with ks := ks2 } :: C } := by
  have ap := pair_apart hcs h.nd
  have hl := h.len
  rw [hcs] at hN hX hl
  refine ⟨?_, hK, ?_, ?_, ?_, ?_⟩
  · simpa using hN
  · simpa [Lf.ptr] using hX
  · intro l' hl'
    have old : ∀ l' ∈ A ++ C, LeafAt w' l' := fun l' hm => (h.leaf l' (by
      rw [hcs]
      rcases List.mem_append.1 hm with h | h
      · simp [h]
      · simp [h])).touch ht (ap.2 l' hm).1 (ap.2 l' hm).2
    rcases List.mem_append.1 hl' with hm | hm
    · exact old l' (by simp [hm])
    · rcases List.mem_cons.1 hm with rfl | hm
      · exact hl1
      · rcases List.mem_cons.1 hm with rfl | hm
        · exact hl2
        · exact old l' (by simp [hm])
  · have e := h.nd
    simp only [Rt.blocks, hcs, lblocks_append, lblocks_cons] at e ⊢
    exact e
  · simp at hl ⊢; omega

theorem RootAt.joined {w w' : World} {r : Rt} {A C : List Lf} {l1 l2 : Lf} (h : RootAt w r) (hcs : r.cs = A ++ l1 :: l2 :: C) (ks1 ks' : List Key)
    (ht : Touch (· ∈ seven r l1 l2) w w') (hN : NodeAt w' r.p (.slice (some ⟨r.kb, 0, none⟩) ks'.length 63) (.slice (some ⟨r.cb, 0, none⟩) (A.length + C.length + 1) 64)) (hK : Vec w' r.kb 9 63 (ks'.map .string)) (hX : Vec w' r.cb 55 64 ((A ++ l1 :: C).map Lf.ptr))
    (hl1 : LeafAt w' { l1 with ks := ks1 }) (hlen : ks'.length + 1 = r.ks.length) :
    RootAt w' { r with ks := ks', cs := A ++ { l1 with ks := ks1 } :: C } := by
  have ap := pair_apart hcs h.nd
  have hl := h.len
  rw [hcs] at hl
  refine ⟨?_, hK, ?_, ?_, ?_, ?_⟩
  · simpa [Nat.add_assoc] using hN
  · simpa [Lf.ptr] using hX
  · intro l' hl'
    have old : ∀ l' ∈ A ++ C, LeafAt w' l' := fun l' hm => (h.leaf l' (by
      rw [hcs]
      rcases List.mem_append.1 hm with h | h
      · simp [h]
      · simp [h])).touch ht (ap.2 l' hm).1 (ap.2 l' hm).2
    rcases List.mem_append.1 hl' with hm | hm
    · exact old l' (by simp [hm])
    · rcases List.mem_cons.1 hm with rfl | hm
      · exact hl1
      · exact old l' (by simp [hm])
  · have e := h.nd
    simp only [Rt.blocks, hcs, lblocks_append, lblocks_cons] at e ⊢
    refine e.sublist ?_
    refine .cons_cons _ (.cons_cons _ (.cons_cons _ (List.Sublist.append_left (.cons_cons _ (.cons_cons _ (.cons _ (.cons _ (List.Sublist.refl _))))) _)))
  · simp at hl ⊢; omega

/-! ### first, last at a leaf -/
theorem neq71 (w : World) (a : Option Addr) (n c n' c' : Nat) : (binOp .neq 71 (.slice a n c) (.slice none n' c')).run Yba.prog w = .ok (.bool (!a.isNone)) w := by
  simp only [binOp]
  simp [Op.equal, Op.maxDepth, Lib.run_equalIn_slice_nil w 9999 71 55 a n c n' c' Yba.underlying71]
set_option maxHeartbeats 1000000 in
theorem first_leaf (l : Lf) (x : Key) (R : List Key) (w : World) (hA : LeafAt w l) (hl : l.ks = x :: R) :
    Calls Yba.prog 43 #[.pointer (some ⟨l.p, 0, none⟩)] w fun e w' => e = .returned (.string x) ∧ ∃ n, w' = w.drewN n := by
  have hsn := neq71
  have c1 := hA.node.c1
  have c2 := hA.node.c2
  have ck : w.cell? ⟨l.kb, 0, none⟩ = some (.string x) := hA.keys.cell (by rw [hl]; rfl)
  have hlen : (0 : Int) < (l.ks.length : Int) := by rw [hl]; simp
  clear hl
  go_enter Yba.func43, Yba.ntmps43
  go_wp2_with fail
  go_loopw [0] (fun n wx => n = .pointer (some ⟨l.p, 0, none⟩) ∧ w = wx) (fun _ _ => 0)
  case atStart => exact ⟨rfl, rfl⟩
  case round =>
    obtain ⟨rfl, rfl⟩ := hrel
    go_wp2_with fail
    go_ret
    exact ⟨rfl, 0, rfl⟩

set_option maxHeartbeats 1000000 in
theorem last_leaf (l : Lf) (x : Key) (R : List Key) (w : World) (hA : LeafAt w l) (hl : l.ks = R ++ [x]) :
    Calls Yba.prog 42 #[.pointer (some ⟨l.p, 0, none⟩)] w fun e w' => e = .returned (.string x) ∧ ∃ n, w' = w.drewN n := by
  have hsn := neq71
  have c1 := hA.node.c1
  have c2 := hA.node.c2
  have hle := hA.keys
  have ck : w.cell? ⟨l.kb, R.length, none⟩ = some (.string x) := hA.keys.cell (by rw [hl]; simp)
  have e1 : l.ks.length = R.length + 1 := by rw [hl]; simp
  have h63 : R.length ≤ 63 := by obtain ⟨f, _, h, _⟩ := hA.keys; simp at h; omega
  rw [e1] at c1
  clear hl e1 hle
  have b0 : (0 : Int) ≤ (R.length : Int) := by omega
  have b1 : ((R.length + 1 : Nat) : Int) - 1 = (R.length : Int) := by omega
  go_enter Yba.func42, Yba.ntmps42
  go_wp2_with fail
  go_loopw [0] (fun n wx => n = .pointer (some ⟨l.p, 0, none⟩) ∧ w = wx) (fun _ _ => 0)
  case atStart => exact ⟨rfl, rfl⟩
  case round =>
    obtain ⟨rfl, rfl⟩ := hrel
    go_wp2_with fail
    go_quiet (fail)
    go_wp2_with fail
    go_ret
    exact ⟨rfl, _, rfl⟩
end Go.Proofs.Ybulkbhty.Tree
