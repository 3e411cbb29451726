import Derived.Test.YbulkbhtyT11
import Derived.Deep.CutRange
namespace Go.Proofs.Ybulkbhty.Tree
open Go.RowKit Go.WideShapes Go.Lib

/-- What Insert leaves. -/
structure SetPut (S : Nat) (t : Tr) (k : Key) (m pk size : Value) (w : World) (t' : Tr) (X Y : List Key) (w' : World) : Prop where
  old : t.flat = X ++ Y
  lo : ∀ x ∈ X, KLt x k
  hi : ∀ y ∈ Y, KLt k y
  new : t'.flat = X ++ k :: Y
  row : SetRow w' S m pk t'.ptr (.int .i64 (t'.flat.length : Int)) size
  at' : t'.At w'
  fresh : S ∉ t'.blocks
  good : t'.Good
  bl : ∀ b ∈ t'.blocks, b ∈ t.blocks ∨ w.heap.size ≤ b
  tc : Touch (fun b => b = S ∨ b ∈ t.blocks) w w'

set_option maxHeartbeats 4000000 in
set_option maxRecDepth 100000 in
theorem insert_nil (S : Nat) (k : Key) (m pk size : Value) (w : World) (hS : SetRow w S m pk (.pointer none) (.int .i64 0) size) :
    Calls Yba.prog 22 #[.pointer (some ⟨S, 2, none⟩), .string k] w fun e w' => e = .returned (.bool true) ∧ ∃ t' X Y, SetPut S .nil k m pk size w t' X Y w' := by
  have hsn := fun w' a n c n' c' => Lib.run_eql_slice_nil (P := Yba.prog) w' 71 55 a n c n' c' Yba.underlying71
  have c2 := hS.c2
  have c4 := hS.c4
  have NL := fun W h => newLeaf S W h
  go_enter Yba.func22, Yba.ntmps22
  go_upto_region 3 with (go_at_call 29; refine (NL _ c4).mono ?_; rintro e w1 ⟨p, kb, rfl, hN, hV, hne, hp, hkb, t1⟩; have f1 := (hS.touch t1 id).fz 2; have d1 := (hS.touch t1 id).c2)
  have hS1 := (hS.touch t1 id).set2 (.pointer (some ⟨p, 0, none⟩))
  have t2 : Touch (fun b => b = S) w1 (w1.setCell ⟨S, 2, none⟩ (.pointer (some ⟨p, 0, none⟩))) := (Touch.refl (· = S) w1).setCell (fun _ => rfl)
  have hpS : p ≠ S := fun e => by have := hS.lt; omega
  have hkS : kb ≠ S := fun e => by have := hS.lt; omega
  replace hN := hN.touch t2 hpS
  replace hV := hV.touch t2 hkS
  have t3 : Touch (· = S) w (w1.setCell ⟨S, 2, none⟩ (.pointer (some ⟨p, 0, none⟩))) := (t1.mono (fun _ _ e => e.elim)).trans t2 (fun _ _ e => e)
  generalize w1.setCell ⟨S, 2, none⟩ (.pointer (some ⟨p, 0, none⟩)) = w2 at *
  have CM := fun W h1 h2 => mutable_any S p (.slice (some ⟨kb, 0, none⟩) 0 63) (.slice none 0 0) W h1 h2
  have d2 := hS1.c2
  have d4 := hS1.c4
  have d3 := hS1.c3
  have df := hS1.fz 2
  have df3 := hS1.fz 3
  have n1 := hN.c1
  have hs : ∀ n, (w2.drewN n).setCell ⟨S, 2, none⟩ (.pointer (some ⟨p, 0, none⟩)) = w2.drewN n := fun n => setCell_same (w := w2.drewN n) d2
  have hL : ∀ n, LeafAt (w2.drewN n) ⟨p, kb, []⟩ := fun n => ⟨hN.touch ((Touch.refl (fun _ => False) w2).drewN n) id, hV.touch ((Touch.refl (fun _ => False) w2).drewN n) id, hne⟩
  have CI := fun W h => insert_leaf S ⟨p, kb, []⟩ k W h List.Pairwise.nil (by simp) (by simp)
  have pass : ∀ n w', Touch (fun b => b = p ∨ b = kb) (w2.drewN n) w' → Touch (fun b => b = p ∨ b = kb) w2 w' := fun n w' ht => ((Touch.refl (fun b => b = p ∨ b = kb) w2).drewN n).trans ht (fun _ _ e => e)
  have kS : ¬ (S = p ∨ S = kb) := fun e => e.elim (fun e => hpS e.symm) (fun e => hkS e.symm)
  clear c2 c4 f1 d1 NL
  go_wp2_with (first | (go_at_call 30; refine (CM _ (by exact d4) (by exact hN)).mono ?_; rintro e w3 ⟨rfl, n, rfl⟩) | (go_at_call 32; refine (CI _ (hL _)).mono ?_; rintro e w4 ⟨rfl, X, Y, hXY, hlo, hhi, hl4, t4⟩; have g3 := (hS1.touch (pass _ _ t4) kS).c3; have gf := (hS1.touch (pass _ _ t4) kS).fz 3))
  go_ret
  have hS4 := hS1.touch (pass _ _ t4) kS
  simp only [List.nil_eq, List.append_eq_nil_iff] at hXY
  obtain ⟨rfl, rfl⟩ := hXY
  refine ⟨rfl, .leaf ⟨p, kb, [k]⟩, [], [], rfl, by simp, by simp, rfl, ?_, ?_, ?_, ?_, ?_, ?_⟩
  · exact hS4.set3 _
  · exact hl4.touch ((Touch.refl (· = S) w4).setCell (fun _ => rfl)) hpS hkS
  · simp [Tr.blocks]; exact ⟨fun e => hpS e.symm, fun e => hkS e.symm⟩
  · simp [Tr.Good]
  · intro b hb; simp [Tr.blocks] at hb; rcases hb with rfl | rfl
    · exact .inr hp
    · exact .inr hkb
  · refine (((t3.mono (fun _ _ e => .inl e)).trans (pass _ _ t4) (fun x hx e => ?_))).setCell (fun _ => .inl rfl)
    rcases e with rfl | rfl <;> omega

set_option maxHeartbeats 4000000 in
set_option maxRecDepth 100000 in
theorem insert_small (S : Nat) (l : Lf) (k : Key) (m pk size : Value) (w : World) (hS : SetRow w S m pk (.pointer (some ⟨l.p, 0, none⟩)) (.int .i64 (l.ks.length : Int)) size) (hA : LeafAt w l) (hd : S ∉ Tr.blocks (.leaf l)) (hr : Rising l.ks) (hk : k ∉ l.ks) (h63 : l.ks.length < 63) :
    Calls Yba.prog 22 #[.pointer (some ⟨S, 2, none⟩), .string k] w fun e w' => e = .returned (.bool true) ∧ ∃ t' X Y, SetPut S (.leaf l) k m pk size w t' X Y w' := by
  have d2 := hS.c2
  have d4 := hS.c4
  have d3 := hS.c3
  have df := hS.fz 2
  have n1 := hA.node.c1
  have CM := fun W h1 h2 => mutable_any S l.p (.slice (some ⟨l.kb, 0, none⟩) l.ks.length 63) (.slice none 0 0) W h1 h2
  have hs : ∀ n, (w.drewN n).setCell ⟨S, 2, none⟩ (.pointer (some ⟨l.p, 0, none⟩)) = w.drewN n := fun n => setCell_same (w := w.drewN n) d2
  have hL : ∀ n, LeafAt (w.drewN n) l := fun n => hA.touch ((Touch.refl (fun _ => False) w).drewN n) id id
  have CI := fun W h => insert_leaf S l k W h hr hk h63
  have pass : ∀ n w', Touch (fun b => b = l.p ∨ b = l.kb) (w.drewN n) w' → Touch (fun b => b = l.p ∨ b = l.kb) w w' := fun n w' ht => ((Touch.refl (fun b => b = l.p ∨ b = l.kb) w).drewN n).trans ht (fun _ _ e => e)
  have kS : ¬ (S = l.p ∨ S = l.kb) := by simpa [Tr.blocks] using hd
  have hpS : l.p ≠ S := fun e => kS (.inl e.symm)
  have hkS : l.kb ≠ S := fun e => kS (.inr e.symm)
  have i63 : ¬ (l.ks.length : Int) = 63 := by omega
  go_enter Yba.func22, Yba.ntmps22
  go_wp2_with (first | (go_at_call 30; refine (CM _ (by exact d4) (by exact hA.node)).mono ?_; rintro e w3 ⟨rfl, n, rfl⟩) | (go_at_call 32; refine (CI _ (hL _)).mono ?_; rintro e w4 ⟨rfl, X, Y, hXY', hlo, hhi, hl4, t4⟩; have hXY : Hid (l.ks = X ++ Y) := hXY'; clear hXY'; have g3 := (hS.touch (pass _ _ t4) kS).c3; have gf := (hS.touch (pass _ _ t4) kS).fz 3))
  go_ret
  have hS4 := hS.touch (pass _ _ t4) kS
  replace hXY := hXY.out
  have eXY : (X ++ k :: Y).length = l.ks.length + 1 := by rw [hXY]; simp; omega
  refine ⟨rfl, .leaf { l with ks := X ++ k :: Y }, X, Y, hXY, hlo, hhi, rfl, ?_, ?_, ?_, ?_, ?_, ?_⟩
  · have h := hS4.set3 (.int .i64 (l.ks.length + 1 : Int))
    simp only [Tr.flat, eXY]
    exact h
  · exact hl4.touch ((Touch.refl (· = S) w4).setCell (fun _ => rfl)) hpS hkS
  · exact hd
  · simp only [Tr.Good, eXY]; omega
  · exact fun b hb => .inl hb
  · refine ((pass _ _ t4).mono (fun x _ e => .inr (by simpa [Tr.blocks] using e))).setCell (fun _ => .inl rfl)

set_option maxHeartbeats 4000000 in
set_option maxRecDepth 100000 in
theorem insert_big (S : Nat) (r : Rt) (k : Key) (m pk size : Value) (w : World) (hS : SetRow w S m pk (.pointer (some ⟨r.p, 0, none⟩)) (.int .i64 (r.flat.length : Int)) size) (hA : RootAt w r) (hd : S ∉ r.blocks) (hr : Rising r.flat) (hk : k ∉ r.flat) (hs : Sizes r.cs) (hks : 1 ≤ r.ks.length) (hlen : r.flat.length ≤ 1024) :
    Calls Yba.prog 22 #[.pointer (some ⟨S, 2, none⟩), .string k] w fun e w' => e = .returned (.bool true) ∧ ∃ t' X Y, SetPut S (.two r) k m pk size w t' X Y w' := by
  have h31 : r.ks.length ≤ 31 := by have := flat_len r w hA hs; omega
  have d2 := hS.c2
  have d4 := hS.c4
  have d3 := hS.c3
  have df := hS.fz 2
  have n1 := hA.node.c1
  have CM := fun W h1 h2 => mutable_any S r.p (.slice (some ⟨r.kb, 0, none⟩) r.ks.length 63) (.slice (some ⟨r.cb, 0, none⟩) r.cs.length 64) W h1 h2
  have hss : ∀ n, (w.drewN n).setCell ⟨S, 2, none⟩ (.pointer (some ⟨r.p, 0, none⟩)) = w.drewN n := fun n => setCell_same (w := w.drewN n) d2
  have hL : ∀ n, RootAt (w.drewN n) r := fun n => hA.touch ((Touch.refl (fun _ => False) w).drewN n) (fun _ _ => id)
  have CI := fun W hO h => insert_two S r k W hO h hr hk (fun e => hk (mem_flat_key hA k e)) (rising_keys hA hr) hs (by omega)
  have pass : ∀ n w', Touch (· ∈ r.blocks) (w.drewN n) w' → Touch (· ∈ r.blocks) w w' := fun n w' ht => ((Touch.refl (· ∈ r.blocks) w).drewN n).trans ht (fun _ _ e => e)
  have i63 : ¬ (r.ks.length : Int) = 63 := by omega
  go_enter Yba.func22, Yba.ntmps22
  go_wp2_with (first | (go_at_call 30; refine (CM _ (by exact d4) (by exact hA.node)).mono ?_; rintro e w3 ⟨rfl, n, rfl⟩) | (go_at_call 32; refine (CI _ (by exact d4) (hL _)).mono ?_; rintro e w4 ⟨rfl, r', X, Y, hP⟩; have g3 := (hS.touch (pass _ _ hP.tc) hd).c3; have gf := (hS.touch (pass _ _ hP.tc) hd).fz 3))
  go_ret
  have hS4 := hS.touch (pass _ _ hP.tc) hd
  have eXY : (X ++ k :: Y).length = r.flat.length + 1 := by rw [hP.old]; simp; omega
  have hSb : S ∉ r'.blocks := fun e => (hP.bl S e).elim hd (fun e => by have := hS.lt; have : w.heap.size ≤ S := e; omega)
  have hk' : 1 ≤ r'.ks.length := by
    by_cases e : r'.ks.length = 0
    · exfalso
      have hl' := hP.at'.len
      have e1 : r'.ks = [] := List.length_eq_zero_iff.1 e
      have hf := flat_len r w hA hs
      match hc : r'.cs, hl' with
      | [l], _ =>
        have e2 := flat_leaf r' [] [] l [] [] (by simp [hc]) (by simp [e1]) rfl
        have e3 := hP.sz l (by rw [hc]; simp)
        simp [inter, rest, hP.new] at e2
        rw [← e2, eXY] at e3
        omega
      | [], hl' => simp at hl'
      | _ :: _ :: _, hl' => simp at hl'; omega
    · omega
  refine ⟨rfl, .two r', X, Y, hP.old, hP.lo, hP.hi, hP.new, ?_, ?_, hSb, ⟨hP.sz, hk'⟩, hP.bl, ((pass _ _ hP.tc).mono (fun x _ e => .inr e)).setCell (fun _ => .inl rfl)⟩
  · have h := hS4.set3 (.int .i64 (r.flat.length + 1 : Int))
    simp only [Tr.flat, hP.new, eXY, Tr.ptr, hP.rp]
    exact h
  · exact hP.at'.touch ((Touch.refl (· = S) w4).setCell (fun _ => rfl)) (fun b hb e => hSb (by rw [← e]; exact hb))
end Go.Proofs.Ybulkbhty.Tree
