import Derived.Test.YbulkbhtyT26
namespace Go.Proofs.Ybulkbhty.Tree
open Go.RowKit Go.WideShapes Go.Lib Go.Maps

set_option maxHeartbeats 4000000 in
set_option maxRecDepth 100000 in
theorem set_old (S : Nat) (t : Tr) (m : Value) (p sz : Int) (M M' : List (Key × Value)) (k : Key) (v : Value) (w : World) (h : St w S t m p sz M) (hk : k.size ≤ maxLen) (hv : SliceV v) (hn0 : M.length ≤ 1024) (hp : Puts M k v M') (u : Value) (hlk : look M k = some u) (hu : SliceV u) :
    Calls Yba.prog 16 #[.pointer (some ⟨S, 0, none⟩), .string k, .agg #[v, .bool true]] w fun e w' => e = .returned (.tuple #[]) ∧ ∃ t' m' p' sz', StNext S t m w M' t' m' p' sz' w' := by
  have hn : M.length ≤ 1024 := hn0
  obtain ⟨a, n, c, rfl, hnm⟩ := hu
  obtain ⟨av, nv, cv, rfl, hnv⟩ := hv
  have t0 : Touch (fun _ => False) w (w.alloc (.cells #[(.slice av nv cv), .bool true] 50)) := (Touch.refl (fun _ => False) w).alloc _
  have hbx : Vec (w.alloc (.cells #[(.slice av nv cv), .bool true] 50)) w.heap.size 50 2 [(.slice av nv cv), .bool true] := vec_two w (.slice av nv cv) (.bool true) 50
  have h0 := h.touch t0 (fun _ _ => id)
  have hltS := h.row.lt
  have hbS : w.heap.size ≠ S := by omega
  have a0 : Touch (· = S) w (w.alloc (.cells #[(.slice av nv cv), .bool true] 50)) := t0.mono (fun _ _ e => e.elim)
  have GT := get_any S m M k _ h0.row.c0 h0.fld hk
  rw [hlk] at GT
  simp only [Option.getD_some, Option.isSome_some] at GT
  clear t0
  have hlk' : Hid (look M k = some (.slice a n c)) := hlk
  clear hlk
  go_enter Yba.func16, Yba.ntmps16
  go_upto_region 2 with (go_at_call 18; refine GT.mono ?_; rintro e w1 ⟨rfl, rfl⟩)
  clear GT
  generalize w.alloc (.cells #[(.slice av nv cv), .bool true] 50) = w1 at *
  have c5 := h0.row.c5
  have f5 := h0.row.fz 5
  have row_sz : ∀ n z, SetRow ((w1.drewN n).setCell ⟨S, 5, none⟩ (.int .i64 z)) S m (.int .i64 p) t.ptr (.int .i64 (t.flat.length : Int)) (.int .i64 z) ∧ Touch (· = S) w1 ((w1.drewN n).setCell ⟨S, 5, none⟩ (.int .i64 z)) := fun n z => ⟨(h0.row.touch ((Touch.refl (fun _ => False) w1).drewN n) id).set5 _, ((Touch.refl (· = S) w1).drewN n).setCell (fun _ => rfl)⟩
  have IS := fun W => itemSize_any k (.slice a n c) a n c rfl W hk hnm
  go_upto_region 3 with fail
  go_cut [5] from 17 to 26 (fun x wx => x = .pointer (some ⟨w.heap.size, 0, none⟩) ∧ ∃ z, SetRow wx S m (.int .i64 p) t.ptr (.int .i64 (t.flat.length : Int)) (.int .i64 z) ∧ Touch (· = S) w1 wx)
  case first =>
    go_region_with (first | (go_at_call 20; refine (IS _).mono ?_; rintro e w' ⟨⟨z, rfl⟩, n9, rfl⟩))
    all_goals (go_wp2_with fail; go_meet)
    all_goals exact ⟨rfl, _, row_sz _ _⟩
  case rest =>
    obtain ⟨rfl, sz2, hr2, t2⟩ := hcut
    have h2 := h0.sized t2 hr2
    have hbx2 := hbx.touch t2 hbS
    have a2 := a0.trans t2 (fun _ _ e => e)
    clear c5 f5 row_sz IS h0 hbx a0 t2 hr2
    generalize wc = w2 at *
    have q0 := hbx2.cell (j := 0) (v := (.slice av nv cv)) rfl
    have q1 := hbx2.cell (j := 1) (v := .bool true) rfl
    have c5 := h2.row.c5
    have f5 := h2.row.fz 5
    have row_sz : ∀ n z, SetRow ((w2.drewN n).setCell ⟨S, 5, none⟩ (.int .i64 z)) S m (.int .i64 p) t.ptr (.int .i64 (t.flat.length : Int)) (.int .i64 z) ∧ Touch (· = S) w2 ((w2.drewN n).setCell ⟨S, 5, none⟩ (.int .i64 z)) := fun n z => ⟨(h2.row.touch ((Touch.refl (fun _ => False) w2).drewN n) id).set5 _, ((Touch.refl (· = S) w2).drewN n).setCell (fun _ => rfl)⟩
    have IS := fun W => itemSize_any k (.slice av nv cv) av nv cv rfl W hk hnv
    go_upto_region 5 with fail
    go_cut [5] from 29 to 39 (fun x wx => x = .pointer (some ⟨w.heap.size, 0, none⟩) ∧ ∃ z, SetRow wx S m (.int .i64 p) t.ptr (.int .i64 (t.flat.length : Int)) (.int .i64 z) ∧ Touch (· = S) w2 wx)
    case first =>
      go_region_with (first | (go_at_call 20; refine (IS _).mono ?_; rintro e w' ⟨⟨z, rfl⟩, n9, rfl⟩))
      all_goals (go_wp2_with fail; go_meet)
      all_goals exact ⟨rfl, _, row_sz _ _⟩
    case rest =>
      obtain ⟨rfl, sz3, hr3, t3⟩ := hcut
      have h3 := h2.sized t3 hr3
      have hbx3 := hbx2.touch t3 hbS
      have a3 := a2.trans t3 (fun _ _ e => e)
      clear c5 f5 row_sz IS h2 hbx2 a2 t3 hr3 q0 q1
      have q0 := hbx3.cell (j := 0) (v := (.slice av nv cv)) rfl
      have SA := fun W hS hm => set_any S m p t.ptr (.int .i64 (t.flat.length : Int)) (.int .i64 sz3) (.slice av nv cv) M M' k W hS hm h3.s2 hk hn hp h3.pk
      rw [hlk'.out] at SA
      simp only [Option.isNone_some] at SA
      have hsame := fun w'' m' p' hd => next_same (w := wc.drew) (w' := w'') (m' := m') (p' := p') (h3.touch ((Touch.refl (fun _ => False) wc).drew) (fun _ _ => id)) hd (fun k' => by
        by_cases e : k' = k
        · subst e; rw [hp.same, hlk'.out]; rfl
        · rw [hp.other k' e]) (by rw [hp.len, hlk'.out]; rfl)
      have a3' : Touch (· = S) w wc.drew := a3.drew
      go_wp2_with fail
      go_region_with (first | (go_at_call 21; refine (SA _ (by exact h3.row) (by exact h3.fld)).mono ?_; rintro e w5 ⟨rfl, m', p', hd⟩))
      all_goals (go_wp2_with fail)
      all_goals go_end0
      all_goals exact ⟨rfl, t, m', p', sz3, (hsame _ _ _ hd).from a3'⟩

set_option maxHeartbeats 4000000 in
set_option maxRecDepth 100000 in
theorem set_new (S : Nat) (t : Tr) (m : Value) (p sz : Int) (M M' : List (Key × Value)) (k : Key) (v : Value) (w : World) (h : St w S t m p sz M) (hk : k.size ≤ maxLen) (hv : SliceV v) (hn0 : M.length ≤ 1024) (hp : Puts M k v M') (hlk : look M k = none) :
    Calls Yba.prog 16 #[.pointer (some ⟨S, 0, none⟩), .string k, .agg #[v, .bool true]] w fun e w' => e = .returned (.tuple #[]) ∧ ∃ t' m' p' sz', StNext S t m w M' t' m' p' sz' w' := by
  have hn : M.length ≤ 1024 := hn0
  obtain ⟨av, nv, cv, rfl, hnv⟩ := hv
  have t0 : Touch (fun _ => False) w (w.alloc (.cells #[(.slice av nv cv), .bool true] 50)) := (Touch.refl (fun _ => False) w).alloc _
  have hbx : Vec (w.alloc (.cells #[(.slice av nv cv), .bool true] 50)) w.heap.size 50 2 [(.slice av nv cv), .bool true] := vec_two w (.slice av nv cv) (.bool true) 50
  have h0 := h.touch t0 (fun _ _ => id)
  have hltS := h.row.lt
  have hbS : w.heap.size ≠ S := by omega
  have a0 : Touch (· = S) w (w.alloc (.cells #[(.slice av nv cv), .bool true] 50)) := t0.mono (fun _ _ e => e.elim)
  have GT := get_any S m M k _ h0.row.c0 h0.fld hk
  rw [hlk] at GT
  simp only [Option.getD_none, Option.isSome_none] at GT
  clear t0
  have hlk' : Hid (look M k = none) := hlk
  clear hlk
  go_enter Yba.func16, Yba.ntmps16
  go_upto_region 2 with (go_at_call 18; refine GT.mono ?_; rintro e w1 ⟨rfl, rfl⟩)
  clear GT
  generalize w.alloc (.cells #[(.slice av nv cv), .bool true] 50) = w1 at *
  have h2 := h0
  have hbx2 := hbx
  have a2 := a0
  clear h0 hbx a0
  obtain ⟨sz2, hsz⟩ : ∃ sz2, sz2 = sz := ⟨_, rfl⟩
  rw [← hsz] at h2
  clear hsz
  generalize w1 = w2 at *
  have q0 := hbx2.cell (j := 0) (v := (.slice av nv cv)) rfl
  have q1 := hbx2.cell (j := 1) (v := .bool true) rfl
  have c5 := h2.row.c5
  have f5 := h2.row.fz 5
  have row_sz : ∀ n z, SetRow ((w2.drewN n).setCell ⟨S, 5, none⟩ (.int .i64 z)) S m (.int .i64 p) t.ptr (.int .i64 (t.flat.length : Int)) (.int .i64 z) ∧ Touch (· = S) w2 ((w2.drewN n).setCell ⟨S, 5, none⟩ (.int .i64 z)) := fun n z => ⟨(h2.row.touch ((Touch.refl (fun _ => False) w2).drewN n) id).set5 _, ((Touch.refl (· = S) w2).drewN n).setCell (fun _ => rfl)⟩
  have IS := fun W => itemSize_any k (.slice av nv cv) av nv cv rfl W hk hnv
  go_upto_region 5 with fail
  go_cut [5] from 29 to 39 (fun x wx => x = .pointer (some ⟨w.heap.size, 0, none⟩) ∧ ∃ z, SetRow wx S m (.int .i64 p) t.ptr (.int .i64 (t.flat.length : Int)) (.int .i64 z) ∧ Touch (· = S) w2 wx)
  case first =>
    go_region_with (first | (go_at_call 20; refine (IS _).mono ?_; rintro e w' ⟨⟨z, rfl⟩, n9, rfl⟩))
    all_goals (go_wp2_with fail; go_meet)
    all_goals exact ⟨rfl, _, row_sz _ _⟩
  case rest =>
    obtain ⟨rfl, sz3, hr3, t3⟩ := hcut
    have h3 := h2.sized t3 hr3
    have hbx3 := hbx2.touch t3 hbS
    have a3 := a2.trans t3 (fun _ _ e => e)
    clear c5 f5 row_sz IS h2 hbx2 a2 t3 hr3 q0 q1
    have q0 := hbx3.cell (j := 0) (v := (.slice av nv cv)) rfl
    have SA := fun W hS hm => set_any S m p t.ptr (.int .i64 (t.flat.length : Int)) (.int .i64 sz3) (.slice av nv cv) M M' k W hS hm h3.s2 hk hn hp h3.pk
    rw [hlk'.out] at SA
    simp only [Option.isNone_none] at SA
    have h3' := h3.touch ((Touch.refl (fun _ => False) wc).drew) (fun _ _ => id)
    have a3' : Touch (· = S) w wc.drew := a3.drew
    have hkt : k ∉ t.flat := fun e => by have := (h3.mem k).1 e; rw [hlk'.out] at this; cases this
    have II := fun W m' p' (hd : MapDone S m t.ptr (.int .i64 (t.flat.length : Int)) (.int .i64 sz3) M' wc.drew m' p' W) => insert_set S t k m' (.int .i64 p') (.int .i64 sz3) W hd.row (h3'.mapped hd).1 h3'.s1 h3'.good h3'.rise hkt (by have := h3'.len; omega)
    have fin := fun w'' w3x m' p' t' X Y hd hs => (next_put (w := wc.drew) (w' := w'') (w'' := w3x) (m' := m') (p' := p') (t' := t') (X := X) (Y := Y) h3' hd hp hlk'.out hs).from a3'
    go_wp2_with fail
    go_region_with (first | (go_at_call 21; refine (SA _ (by exact h3.row) (by exact h3.fld)).mono ?_; rintro e w5 ⟨rfl, m', p', hd⟩))
    all_goals (go_wp2_with (go_at_call 22; refine (II _ _ _ hd).mono ?_; rintro e w6 ⟨rfl, t', X, Y, hs⟩))
    all_goals go_end0
    all_goals exact ⟨rfl, t', m', p', sz3, fin _ _ _ _ _ _ _ hd hs⟩

set_option maxHeartbeats 4000000 in
set_option maxRecDepth 100000 in
theorem del_old (S : Nat) (t : Tr) (m : Value) (p sz : Int) (M M' : List (Key × Value)) (k : Key) (v : Value) (w : World) (h : St w S t m p sz M) (hk : k.size ≤ maxLen) (hn0 : M.length ≤ 1024) (hp : Dels M k M') (u : Value) (hlk : look M k = some u) (hu : SliceV u) :
    Calls Yba.prog 16 #[.pointer (some ⟨S, 0, none⟩), .string k, .agg #[v, .bool false]] w fun e w' => e = .returned (.tuple #[]) ∧ ∃ t' m' p' sz', StNext S t m w M' t' m' p' sz' w' := by
  have hn : M.length ≤ 1024 := hn0
  obtain ⟨a, n, c, rfl, hnm⟩ := hu
  have t0 : Touch (fun _ => False) w (w.alloc (.cells #[v, .bool false] 50)) := (Touch.refl (fun _ => False) w).alloc _
  have hbx : Vec (w.alloc (.cells #[v, .bool false] 50)) w.heap.size 50 2 [v, .bool false] := vec_two w v (.bool false) 50
  have h0 := h.touch t0 (fun _ _ => id)
  have hltS := h.row.lt
  have hbS : w.heap.size ≠ S := by omega
  have a0 : Touch (· = S) w (w.alloc (.cells #[v, .bool false] 50)) := t0.mono (fun _ _ e => e.elim)
  have GT := get_any S m M k _ h0.row.c0 h0.fld hk
  rw [hlk] at GT
  simp only [Option.getD_some, Option.isSome_some] at GT
  clear t0
  have hlk' : Hid (look M k = some (.slice a n c)) := hlk
  clear hlk
  go_enter Yba.func16, Yba.ntmps16
  go_upto_region 2 with (go_at_call 18; refine GT.mono ?_; rintro e w1 ⟨rfl, rfl⟩)
  clear GT
  generalize w.alloc (.cells #[v, .bool false] 50) = w1 at *
  have c5 := h0.row.c5
  have f5 := h0.row.fz 5
  have row_sz : ∀ n z, SetRow ((w1.drewN n).setCell ⟨S, 5, none⟩ (.int .i64 z)) S m (.int .i64 p) t.ptr (.int .i64 (t.flat.length : Int)) (.int .i64 z) ∧ Touch (· = S) w1 ((w1.drewN n).setCell ⟨S, 5, none⟩ (.int .i64 z)) := fun n z => ⟨(h0.row.touch ((Touch.refl (fun _ => False) w1).drewN n) id).set5 _, ((Touch.refl (· = S) w1).drewN n).setCell (fun _ => rfl)⟩
  have IS := fun W => itemSize_any k (.slice a n c) a n c rfl W hk hnm
  go_upto_region 3 with fail
  go_cut [5] from 17 to 26 (fun x wx => x = .pointer (some ⟨w.heap.size, 0, none⟩) ∧ ∃ z, SetRow wx S m (.int .i64 p) t.ptr (.int .i64 (t.flat.length : Int)) (.int .i64 z) ∧ Touch (· = S) w1 wx)
  case first =>
    go_region_with (first | (go_at_call 20; refine (IS _).mono ?_; rintro e w' ⟨⟨z, rfl⟩, n9, rfl⟩))
    all_goals (go_wp2_with fail; go_meet)
    all_goals exact ⟨rfl, _, row_sz _ _⟩
  case rest =>
    obtain ⟨rfl, sz2, hr2, t2⟩ := hcut
    have h2 := h0.sized t2 hr2
    have hbx2 := hbx.touch t2 hbS
    have a2 := a0.trans t2 (fun _ _ e => e)
    clear c5 f5 row_sz IS h0 hbx a0 t2 hr2
    generalize wc = w2 at *
    have q1 := hbx2.cell (j := 1) (v := .bool false) rfl
    have MD := fun W hS hm => mdelete_any S m p t.ptr (.int .i64 (t.flat.length : Int)) (.int .i64 sz2) M M' k W hS hm h2.s2 hk hn hp h2.pk
    rw [hlk'.out] at MD
    simp only [Option.isSome_some] at MD
    have hkt : k ∈ t.flat := (h2.mem k).2 (by rw [hlk'.out]; rfl)
    have II := fun W m' p' (hd : MapDone S m t.ptr (.int .i64 (t.flat.length : Int)) (.int .i64 sz2) M' w2 m' p' W) => delete_set S t k m' (.int .i64 p') (.int .i64 sz2) W hd.row (h2.mapped hd).1 h2.s1 h2.good h2.rise hkt (by have := h2.len; omega)
    have fin := fun w'' w3x m' p' t' X Y hd hs => (next_del (w := w2) (w' := w'') (w'' := w3x) (m' := m') (p' := p') (t' := t') (U := X) (V := Y) h2 hd hp hlk'.out hs).from a2
    go_wp2_with (first | (go_at_call 23; refine (MD _ h2.row h2.fld).mono ?_; rintro e w5 ⟨rfl, m', p', hd⟩) | (go_at_call 24; refine (II _ _ _ hd).mono ?_; rintro e w6 ⟨rfl, t', X, Y, hs⟩))
    go_end0
    exact ⟨rfl, t', m', p', sz2, fin _ _ _ _ _ _ _ hd hs⟩

set_option maxHeartbeats 4000000 in
set_option maxRecDepth 100000 in
theorem del_new (S : Nat) (t : Tr) (m : Value) (p sz : Int) (M M' : List (Key × Value)) (k : Key) (v : Value) (w : World) (h : St w S t m p sz M) (hk : k.size ≤ maxLen) (hn0 : M.length ≤ 1024) (hp : Dels M k M') (hlk : look M k = none) :
    Calls Yba.prog 16 #[.pointer (some ⟨S, 0, none⟩), .string k, .agg #[v, .bool false]] w fun e w' => e = .returned (.tuple #[]) ∧ ∃ t' m' p' sz', StNext S t m w M' t' m' p' sz' w' := by
  have hn : M.length ≤ 1024 := hn0
  have t0 : Touch (fun _ => False) w (w.alloc (.cells #[v, .bool false] 50)) := (Touch.refl (fun _ => False) w).alloc _
  have hbx : Vec (w.alloc (.cells #[v, .bool false] 50)) w.heap.size 50 2 [v, .bool false] := vec_two w v (.bool false) 50
  have h0 := h.touch t0 (fun _ _ => id)
  have hltS := h.row.lt
  have hbS : w.heap.size ≠ S := by omega
  have a0 : Touch (· = S) w (w.alloc (.cells #[v, .bool false] 50)) := t0.mono (fun _ _ e => e.elim)
  have GT := get_any S m M k _ h0.row.c0 h0.fld hk
  rw [hlk] at GT
  simp only [Option.getD_none, Option.isSome_none] at GT
  clear t0
  have hlk' : Hid (look M k = none) := hlk
  clear hlk
  go_enter Yba.func16, Yba.ntmps16
  go_upto_region 2 with (go_at_call 18; refine GT.mono ?_; rintro e w1 ⟨rfl, rfl⟩)
  clear GT
  generalize w.alloc (.cells #[v, .bool false] 50) = w1 at *
  have h2 := h0
  have hbx2 := hbx
  have a2 := a0
  clear h0 hbx a0
  obtain ⟨sz2, hsz⟩ : ∃ sz2, sz2 = sz := ⟨_, rfl⟩
  rw [← hsz] at h2
  clear hsz
  generalize w1 = w2 at *
  have q1 := hbx2.cell (j := 1) (v := .bool false) rfl
  have MD := fun W hS hm => mdelete_any S m p t.ptr (.int .i64 (t.flat.length : Int)) (.int .i64 sz2) M M' k W hS hm h2.s2 hk hn hp h2.pk
  rw [hlk'.out] at MD
  simp only [Option.isSome_none] at MD
  have hsame := fun w'' m' p' hd => next_same (w := w2) (w' := w'') (m' := m') (p' := p') h2 hd (fun k' => by
    by_cases e : k' = k
    · subst e; rw [hp.same, hlk'.out]
    · rw [hp.other k' e]) (by have := hp.len; rw [hlk'.out] at this; simpa using this)
  go_wp2_with (first | (go_at_call 23; refine (MD _ h2.row h2.fld).mono ?_; rintro e w5 ⟨rfl, m', p', hd⟩))
  go_end0
  exact ⟨rfl, t, m', p', sz2, (hsame _ _ _ hd).from a2⟩
end Go.Proofs.Ybulkbhty.Tree
