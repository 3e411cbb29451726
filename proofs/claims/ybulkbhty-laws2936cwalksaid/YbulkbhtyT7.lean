import Derived.Test.YbulkbhtyT5
import Derived.Test.YbulkbhtyT6
namespace Go.Proofs.Ybulkbhty.Tree
open Go.RowKit Go.WideShapes Go.Lib

/-- A leaf: its node's block, its keys' block, its keys. -/
structure Lf where
  p : Nat
  kb : Nat
  ks : List Key
structure LeafAt (w : World) (l : Lf) : Prop where
  node : NodeAt w l.p (.slice (some ⟨l.kb, 0, none⟩) l.ks.length 63) (.slice none 0 0)
  keys : Vec w l.kb 9 63 (l.ks.map .string)
  ne : l.p ≠ l.kb
theorem LeafAt.touch {w w' : World} {l : Lf} {F : Nat → Prop} (h : LeafAt w l) (ht : Touch F w w') (h1 : ¬ F l.p) (h2 : ¬ F l.kb) : LeafAt w' l := ⟨h.node.touch ht h1, h.keys.touch ht h2, h.ne⟩

def nth (L : List Key) (j : Nat) : Key := L.getD j ByteArray.empty
theorem nth_get {L : List Key} {j : Nat} (h : j < L.length) : L[j]? = some (nth L j) := by simp [nth, h]
theorem vec_cell {w : World} {b cap : Nat} {L : List Key} (h : Vec w b 9 cap (L.map .string)) : ∀ j, j < L.length → w.cell? ⟨b, j, none⟩ = some (.string (nth L j)) := fun j hj => h.cell (by rw [List.getElem?_map, nth_get hj]; rfl)
theorem rising_nth {L : List Key} (h : Rising L) : ∀ i j, i < j → j < L.length → KLt (nth L i) (nth L j) := fun i j hij hj => by
  have := List.pairwise_iff_getElem.1 h i j (by omega) hj hij
  simpa [nth, hj, show i < L.length by omega] using this
/-- Where k stands: what lies ahead, what lies behind. -/
theorem Place.cut {L : List Key} {k : Key} {i : Nat} (hP : Place L.length (nth L) k i) : (∀ x ∈ L.take i, KLt x k) ∧ (∀ x ∈ L.drop i, ¬ KLt x k) := by
  constructor
  · intro x hx
    obtain ⟨j, hj, rfl⟩ := List.mem_iff_getElem.1 hx
    have hji : j < i := by simp at hj; omega
    have hjl : j < L.length := by have := hP.le; omega
    have := hP.lo j hji
    simpa [nth, hjl] using this
  · intro x hx
    obtain ⟨j, hj, rfl⟩ := List.mem_iff_getElem.1 hx
    have hjl : i + j < L.length := by simp at hj; omega
    have := hP.hi (i + j) (by omega) hjl
    simpa [nth, hjl] using this
theorem Place.new {L : List Key} {k : Key} {i : Nat} (_ : Place L.length (nth L) k i) (hk : k ∉ L) : decide (i < L.length ∧ nth L i = k) = false := by
  simp only [decide_eq_false_iff_not]
  rintro ⟨h1, h2⟩
  exact hk (by rw [← h2]; simp [nth, h1])
theorem Place.above {L : List Key} {k : Key} {i : Nat} (hP : Place L.length (nth L) k i) (hk : k ∉ L) : ∀ x ∈ L.drop i, KLt k x := fun x hx =>
  KLt.of_not (hP.cut.2 x hx) (fun e => hk (by rw [← e]; exact List.mem_of_mem_drop hx))

/-- The search, where k is not there. -/
theorem search_new (b c : Nat) (ks : List Key) (k : Key) (w : World) (hn : ks.length ≤ 64) (hV : Vec w b 9 63 (ks.map .string)) (hr : Rising ks) (hk : k ∉ ks) :
    Calls Yba.prog 25 #[.slice (some ⟨b, 0, none⟩) ks.length c, .string k, .func (.func 26) #[] #[]] w fun e w' => ∃ i, Place ks.length (nth ks) k i ∧ e = .returned (.tuple #[.int .i64 (i : Int), .bool false]) ∧ w' = w :=
  (search_any b ks.length c (nth ks) k w hn (vec_cell hV) (rising_nth hr)).mono fun e w' ⟨i, hP, he, hw⟩ => ⟨i, hP, by rw [he, hP.new hk], hw⟩
/-- The search, where k is there. -/
theorem search_old (b c : Nat) (ks : List Key) (k : Key) (w : World) (hn : ks.length ≤ 64) (hV : Vec w b 9 63 (ks.map .string)) (hr : Rising ks) (hk : k ∈ ks) :
    Calls Yba.prog 25 #[.slice (some ⟨b, 0, none⟩) ks.length c, .string k, .func (.func 26) #[] #[]] w fun e w' => ∃ i, i < ks.length ∧ nth ks i = k ∧ e = .returned (.tuple #[.int .i64 (i : Int), .bool true]) ∧ w' = w :=
  (search_any b ks.length c (nth ks) k w hn (vec_cell hV) (rising_nth hr)).mono fun e w' ⟨i, hP, he, hw⟩ => by
    obtain ⟨j, hj, hjk⟩ := List.mem_iff_getElem.1 hk
    have ej : nth ks j = k := by simp [nth, hj, hjk]
    have hij : i = j := by
      rcases Nat.lt_trichotomy i j with h | h | h
      · have h1 := rising_nth hr i j h hj
        rw [ej] at h1
        exact absurd h1 (hP.hi i (Nat.le_refl _) (by omega))
      · exact h
      · have h1 := hP.lo j h
        rw [ej] at h1
        exact absurd h1 (KLt.irrefl k)
    subst hij
    exact ⟨i, hj, ej, by rw [he, decide_eq_true ⟨hj, ej⟩], hw⟩

set_option maxHeartbeats 2000000 in
set_option maxRecDepth 100000 in
theorem insert_leaf (S : Nat) (l : Lf) (k : Key) (w : World) (hA : LeafAt w l) (hr : Rising l.ks) (hk : k ∉ l.ks) (hlen : l.ks.length < 63) :
    Calls Yba.prog 32 #[.pointer (some ⟨S, 2, none⟩), .pointer (some ⟨l.p, 0, none⟩), .string k] w fun e w' => e = .returned (.bool true) ∧ ∃ X Y, l.ks = X ++ Y ∧ (∀ x ∈ X, KLt x k) ∧ (∀ y ∈ Y, KLt k y) ∧ LeafAt w' { l with ks := X ++ k :: Y } ∧ Touch (fun b => b = l.p ∨ b = l.kb) w w' := by
  obtain ⟨p, kb, ks⟩ := l
  obtain ⟨hN, hV, hne⟩ := hA
  simp only at hN hV hne hr hk hlen ⊢
  have c1 := hN.c1
  have c2 := hN.c2
  have hsn := fun w' a n c n' c' => Lib.run_eql_slice_nil (P := Yba.prog) w' 71 55 a n c n' c' Yba.underlying71
  have SE := search_new kb 63 ks k w (by omega) hV hr hk
  go_enter Yba.func32, Yba.ntmps32
  go_wp2_with fail
  go_loopw [1, 7, 8, 9] (fun n _ _ _ wx => n = .pointer (some ⟨p, 0, none⟩) ∧ w = wx) (fun _ _ _ _ _ => 0)
  case atStart => exact ⟨rfl, rfl⟩
  case round =>
    obtain ⟨rfl, rfl⟩ := hrel
    go_upto_region 2 with (go_at_call 25; refine SE.mono ?_; rintro e w' ⟨i, hP, rfl, hw⟩; subst hw)
    have hC := hP.cut
    have hU := hP.above hk
    have hi' : i ≤ (ks.map Value.string).length := by simpa using hP.le
    have CI := fun (W : World) hV' hv => insertStr kb 63 i w'.heap.size (ks.map Value.string) (.string k) W hV' hi' (by simp; omega) (by omega) hv (by have := hV.lt; omega) (str_one ks) rfl
    rw [List.length_map] at CI
    have vK : Vec (w'.alloc (.cells #[.string k] 9)) kb 9 63 (ks.map .string) := hV.touch ((Touch.refl (fun _ => False) w').alloc _) (fun h => h)
    have vv := vec_one w' (.string k) 9
    clear SE
    go_wp2_with (go_at_call 37; refine (CI _ vK vv).mono ?_; rintro e w6 ⟨rfl, hK6, t6⟩; have l6 := (hN.touch (((Touch.refl (· = kb) w').alloc _).trans t6 (fun _ _ h => h)) hne).c1; have f6 := (hN.touch (((Touch.refl (· = kb) w').alloc _).trans t6 (fun _ _ h => h)) hne).fz 1)
    have s6 : Touch (· = kb) w' w6 := ((Touch.refl (· = kb) w').alloc _).trans t6 (fun _ _ h => h)
    go_ret
    refine ⟨rfl, ks.take i, ks.drop i, (List.take_append_drop i ks).symm, hC.1, hU, ⟨?_, ?_, hne⟩, (s6.mono (fun _ _ h => .inr h)).setCell (fun _ => .inl rfl)⟩
    · have h := (hN.touch s6 hne).set1 (.slice (some ⟨kb, 0, none⟩) (ks.length + 1) 63)
      have e : (ks.take i ++ k :: ks.drop i).length = ks.length + 1 := by simp; omega
      simp only [e]
      exact h
    · have h := hK6.touch ((Touch.refl (· = p) w6).setCell (o := 1) (v := .slice (some ⟨kb, 0, none⟩) (ks.length + 1) 63) (fun _ => rfl)) (fun e => hne e.symm)
      simp only [List.map_append, List.map_take, List.map_cons, List.map_drop]
      exact h
end Go.Proofs.Ybulkbhty.Tree
