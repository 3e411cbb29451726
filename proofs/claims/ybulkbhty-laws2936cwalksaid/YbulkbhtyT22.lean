import Derived.Test.YbulkbhtyT20
namespace Go.Proofs.Ybulkbhty.Tree
open Go.RowKit Go.WideShapes Go.Lib

/-! ### Ceil: the first key that is k or comes after it -/
instance (a b : Key) : Decidable (KLt a b) := inferInstanceAs (Decidable (kcmp a b < 0))
def ceilOf (L : List Key) (k : Key) : Option Key := L.find? fun x => !decide (KLt x k)
def ceilVal (c : Option Key) : Value := .tuple #[.string (c.getD ⟨#[]⟩), .bool c.isSome]

theorem ceil_none {L : List Key} {k : Key} (h : ∀ x ∈ L, KLt x k) : ceilOf L k = none := by
  simp only [ceilOf, List.find?_eq_none]
  intro x hx
  simp [h x hx]
theorem ceil_append {X Y : List Key} {k : Key} : ceilOf (X ++ Y) k = (ceilOf X k).or (ceilOf Y k) := by simp [ceilOf, List.find?_append]
theorem ceil_cons {y : Key} {Y : List Key} {k : Key} (h : ¬ KLt y k) : ceilOf (y :: Y) k = some y := by simp [ceilOf, h]
theorem ceil_mem {L : List Key} {k : Key} (hr : Rising L) (hk : k ∈ L) : ceilOf L k = some k := by
  obtain ⟨X, Y, rfl⟩ := List.append_of_mem hk
  have hx : ∀ x ∈ X, KLt x k := fun x hx => (List.pairwise_append.1 hr).2.2 x hx k (by simp)
  rw [ceil_append, ceil_none hx, ceil_cons (KLt.irrefl k)]
  rfl
theorem ceil_place {L : List Key} {k : Key} {i : Nat} (hP : Place L.length (nth L) k i) (hi : i < L.length) : ceilOf L k = some (nth L i) := by
  have hc := hP.cut
  have e : L = L.take i ++ nth L i :: L.drop (i + 1) := nth_split hi rfl
  have hn : ¬ KLt (nth L i) k := hc.2 _ (by
    have : L.drop i = nth L i :: L.drop (i + 1) := by
      rw [show nth L i = L[i] by simp [nth, hi], List.getElem_cons_drop]
    rw [this]; simp)
  rw [e, ceil_append, ceil_none hc.1, ceil_cons hn, ← e]
  rfl
theorem ceil_end {L : List Key} {k : Key} {i : Nat} (hP : Place L.length (nth L) k i) (hi : ¬ i < L.length) : ceilOf L k = none := by
  have hc := hP.cut
  rw [List.take_of_length_le (by omega)] at hc
  exact ceil_none hc.1

theorem ceil_nil (S : Nat) (k : Key) (w : World) (hc : w.cell? ⟨S, 2, none⟩ = some (.pointer none)) :
    Calls Yba.prog 17 #[.pointer (some ⟨S, 2, none⟩), .string k] w fun e w' => e = .returned (.tuple #[.string ⟨#[]⟩, .bool false]) ∧ w' = w := by
  go_enter Yba.func17, Yba.ntmps17
  go_wp2_with fail
  go_loopw [6, 7, 8, 9, 10] (fun c o n _ _ wx => c = .string ⟨#[]⟩ ∧ o = .bool false ∧ n = .pointer none ∧ w = wx) (fun _ _ _ _ _ _ => 0)
  case atStart => exact ⟨rfl, rfl, rfl, rfl⟩
  case round =>
    obtain ⟨rfl, rfl, rfl, rfl⟩ := hrel
    go_wp2_with fail
    go_ret2
    exact ⟨rfl, rfl⟩

set_option maxHeartbeats 2000000 in
set_option maxRecDepth 100000 in
theorem ceil_leaf (S : Nat) (l : Lf) (k : Key) (w : World) (hc : w.cell? ⟨S, 2, none⟩ = some (.pointer (some ⟨l.p, 0, none⟩))) (hA : LeafAt w l) (hr : Rising l.ks) (h63 : l.ks.length ≤ 63) :
    Calls Yba.prog 17 #[.pointer (some ⟨S, 2, none⟩), .string k] w fun e w' => e = .returned (ceilVal (ceilOf l.ks k)) ∧ w' = w := by
  have hsn := fun w' a n c n' c' => Lib.run_eql_slice_nil (P := Yba.prog) w' 71 55 a n c n' c' Yba.underlying71
  have c1 := hA.node.c1
  have c2 := hA.node.c2
  go_enter Yba.func17, Yba.ntmps17
  go_wp2_with fail
  go_loopw [6, 7, 8, 9, 10] (fun c o n _ _ wx => c = .string ⟨#[]⟩ ∧ o = .bool false ∧ n = .pointer (some ⟨l.p, 0, none⟩) ∧ w = wx) (fun _ _ _ _ _ _ => 0)
  case atStart => exact ⟨rfl, rfl, rfl, rfl⟩
  case round =>
    obtain ⟨rfl, rfl, rfl, rfl⟩ := hrel
    by_cases hk : k ∈ l.ks
    · have SE := search_old l.kb 63 l.ks k w (by omega) hA.keys hr hk
      have hce : Hid (ceilOf l.ks k = some k) := ceil_mem hr hk
      go_upto_region 7 with (go_at_call 25; refine SE.mono ?_; rintro e w' ⟨i, hi, hn, rfl, hw⟩; subst hw)
      have ck := vec_cell hA.keys i hi
      rw [hn] at ck
      have i1 : (i : Int) < (l.ks.length : Int) := by omega
      clear SE hn
      go_wp2_with fail
      go_ret2
      rw [hce.out]
      exact ⟨rfl, rfl⟩
    · have SE := search_new l.kb 63 l.ks k w (by omega) hA.keys hr hk
      go_upto_region 8 with (go_at_call 25; refine SE.mono ?_; rintro e w' ⟨i, hP, rfl, hw⟩; subst hw)
      clear SE
      by_cases hi : i < l.ks.length
      · have ck := vec_cell hA.keys i hi
        have i1 : (i : Int) < (l.ks.length : Int) := by omega
        go_wp2_with fail
        go_ret2
        rw [ceil_place hP hi]
        exact ⟨rfl, rfl⟩
      · have i1 : ¬ (i : Int) < (l.ks.length : Int) := by omega
        go_wp2_with fail
        go_ret2
        rw [ceil_end hP hi]
        exact ⟨rfl, rfl⟩

structure CeilDown (r : Rt) (k : Key) (w : World) (l : Lf) (c : Option Key) : Prop where
  leaf : LeafAt w l
  rl : Rising l.ks
  le : l.ks.length ≤ 63
  eq : ceilOf r.flat k = (ceilOf l.ks k).or c
  ne : l.p ≠ r.p

theorem Down.ceil {r : Rt} {w : World} {k : Key} {A C : List Lf} {l : Lf} {P Q : List Key} (h : Down r w k r A l C P Q w) (hr : Rising r.flat) : CeilDown r k w l Q.head? := by
  have hmem : l ∈ r.cs := by rw [h.cs]; simp
  have hf := flat_leaf r A C l P Q h.cs h.ks h.al
  have hr' := hr
  rw [hf] at hr'
  refine ⟨h.at1.leaf l hmem, (List.pairwise_append.1 (List.pairwise_append.1 hr').2.1).1, (h.sz l hmem).2, ?_, h.at1.leaf_ne hmem⟩
  have h1 := ceil_none (inter_lt (List.pairwise_append.1 hr').1 h.lo)
  rw [hf, ceil_append, ceil_append, h1]
  have h2 : ceilOf (rest (C.map (·.ks)) Q) k = Q.head? := by
    cases Q with
    | nil => rfl
    | cons q Q => exact ceil_cons (fun e => (h.hi q (by simp)).asymm e)
  rw [h2]
  rfl

set_option maxHeartbeats 2000000 in
set_option maxRecDepth 100000 in
theorem ceil_two (S : Nat) (r : Rt) (k : Key) (w : World) (hc : w.cell? ⟨S, 2, none⟩ = some (.pointer (some ⟨r.p, 0, none⟩))) (h : RootAt w r) (hr : Rising r.flat) (hs : Sizes r.cs) (hlen : r.ks.length ≤ 60) :
    Calls Yba.prog 17 #[.pointer (some ⟨S, 2, none⟩), .string k] w fun e w' => e = .returned (ceilVal (ceilOf r.flat k)) ∧ w' = w := by
  have hsn := fun w' a n c n' c' => Lib.run_eql_slice_nil (P := Yba.prog) w' 71 55 a n c n' c' Yba.underlying71
  have c1 := h.node.c1
  have c2 := h.node.c2
  have hrk := rising_keys h hr
  go_enter Yba.func17, Yba.ntmps17
  go_wp2_with fail
  go_loopw [6, 7, 8, 9, 10] (fun c o n _ _ wx => (c = .string ⟨#[]⟩ ∧ o = .bool false ∧ n = .pointer (some ⟨r.p, 0, none⟩) ∧ w = wx) ∨ (∃ l cc, c = .string (Option.getD cc ⟨#[]⟩) ∧ o = .bool cc.isSome ∧ n = .pointer (some ⟨l.p, 0, none⟩) ∧ CeilDown r k w l cc ∧ w = wx)) (fun _ _ n _ _ _ => phase r.p n)
  case atStart => exact .inl ⟨rfl, rfl, rfl, rfl⟩
  case round =>
    rcases hrel with ⟨rfl, rfl, rfl, rfl⟩ | ⟨l, cc, rfl, rfl, rfl, hD, rfl⟩
    · by_cases hk : k ∈ r.ks
      · have SE := search_old r.kb 63 r.ks k w (by omega) h.keys hrk hk
        have hce : Hid (ceilOf r.flat k = some k) := ceil_mem hr (mem_flat_key h k hk)
        go_upto_region 7 with (go_at_call 25; refine SE.mono ?_; rintro e w' ⟨i, hi, hn, rfl, hw⟩; subst hw)
        have ck := vec_cell h.keys i hi
        rw [hn] at ck
        have i1 : (i : Int) < (r.ks.length : Int) := by omega
        clear SE hn
        go_wp2_with fail
        go_ret2
        rw [hce.out]
        exact ⟨rfl, rfl⟩
      · have SE := search_new r.kb 63 r.ks k w (by omega) h.keys hrk hk
        go_upto_region 8 with (go_at_call 25; refine SE.mono ?_; rintro e w' ⟨i, hP, rfl, hw⟩; subst hw)
        obtain ⟨A, l, C, P, Q, hD, hPi⟩ := Down.start (w1 := w') h hs hk hP (Touch.refl _ w')
        have hCD := hD.ceil hr
        have hne := hCD.ne
        have hxi : (r.cs.map Lf.ptr)[i]? = some (.pointer (some ⟨l.p, 0, none⟩)) := by rw [hD.cs, List.map_append, List.getElem?_append_right (by simp [hD.al, hPi])]; simp [hD.al, hPi, Lf.ptr]
        have kc := h.kids.cell hxi
        have ic : (i : Int) < (r.cs.length : Int) := by have := hP.le; have := h.len; omega
        have hks := hD.ks
        clear SE hxi
        by_cases hi : i < r.ks.length
        · have ck := vec_cell h.keys i hi
          have i1 : (i : Int) < (r.ks.length : Int) := by omega
          have hQ : Hid (Q.head? = some (nth r.ks i)) := by
            show Q.head? = some (nth r.ks i)
            rw [← nth_get hi, hks, List.getElem?_append_right (by omega), ← hPi]
            simp [List.head?_eq_getElem?]
          clear hks
          go_wp2_with fail
          go_roundw
          case rel => exact .inr ⟨l, Q.head?, by rw [hQ.out]; rfl, by rw [hQ.out]; rfl, rfl, hCD, by trivial⟩
          case measure => simp [phase, hne]
        · have i1 : ¬ (i : Int) < (r.ks.length : Int) := by omega
          have hQ : Hid (Q.head? = none) := by
            show Q.head? = none
            have : Q.length = 0 := by rw [hks] at hi; simp at hi; omega
            rw [List.length_eq_zero_iff.1 this]; rfl
          clear hks
          go_wp2_with fail
          go_roundw
          case rel => exact .inr ⟨l, Q.head?, by rw [hQ.out]; rfl, by rw [hQ.out]; rfl, rfl, hCD, by trivial⟩
          case measure => simp [phase, hne]
    · have hA := hD.leaf
      have h63 := hD.le
      have heq : Hid (ceilOf r.flat k = (ceilOf l.ks k).or cc) := hD.eq
      clear c1 c2
      have c1 := hA.node.c1
      have c2 := hA.node.c2
      by_cases hk : k ∈ l.ks
      · have SE := search_old l.kb 63 l.ks k w (by omega) hA.keys hD.rl hk
        have hce : Hid (ceilOf l.ks k = some k) := ceil_mem hD.rl hk
        go_upto_region 7 with (go_at_call 25; refine SE.mono ?_; rintro e w' ⟨i, hi, hn, rfl, hw⟩; subst hw)
        have ck := vec_cell hA.keys i hi
        rw [hn] at ck
        have i1 : (i : Int) < (l.ks.length : Int) := by omega
        clear SE hn
        go_wp2_with fail
        go_ret2
        rw [heq.out, hce.out]
        exact ⟨rfl, rfl⟩
      · have SE := search_new l.kb 63 l.ks k w (by omega) hA.keys hD.rl hk
        go_upto_region 8 with (go_at_call 25; refine SE.mono ?_; rintro e w' ⟨i, hP, rfl, hw⟩; subst hw)
        clear SE
        by_cases hi : i < l.ks.length
        · have ck := vec_cell hA.keys i hi
          have i1 : (i : Int) < (l.ks.length : Int) := by omega
          go_wp2_with fail
          go_ret2
          rw [heq.out, ceil_place hP hi]
          exact ⟨rfl, rfl⟩
        · have i1 : ¬ (i : Int) < (l.ks.length : Int) := by omega
          go_wp2_with fail
          go_ret2
          rw [heq.out, ceil_end hP hi]
          exact ⟨rfl, rfl⟩

theorem ceil_set (S : Nat) (t : Tr) (k : Key) (w : World) (hc : w.cell? ⟨S, 2, none⟩ = some t.ptr) (hA : t.At w) (hg : t.Good) (hr : Rising t.flat) (hlen : t.flat.length ≤ 1024) :
    Calls Yba.prog 17 #[.pointer (some ⟨S, 2, none⟩), .string k] w fun e w' => e = .returned (ceilVal (ceilOf t.flat k)) ∧ w' = w := by
  cases t with
  | nil => exact ceil_nil S k w hc
  | leaf l => exact ceil_leaf S l k w hc hA hr hg
  | two r => exact ceil_two S r k w hc hA hr hg.1 (by have e1 : r.flat.length ≤ 1024 := hlen; have := flat_len r w hA hg.1; omega)
end Go.Proofs.Ybulkbhty.Tree
