import Derived.Test.YbulkbhtyT20
namespace Go.Proofs.Ybulkbhty.Tree
open Go.RowKit Go.WideShapes Go.Lib

/-- What Delete leaves. -/
structure SetCut (S : Nat) (t : Tr) (k : Key) (m pk size : Value) (w : World) (t' : Tr) (U V : List Key) (w' : World) : Prop where
  old : t.flat = U ++ k :: V
  new : t'.flat = U ++ V
  row : SetRow w' S m pk t'.ptr (.int .i64 (t'.flat.length : Int)) size
  at' : t'.At w'
  fresh : S ∉ t'.blocks
  good : t'.Good
  bl : ∀ b ∈ t'.blocks, b ∈ t.blocks
  tc : Touch (fun b => b = S ∨ b ∈ t.blocks) w w'

set_option maxHeartbeats 4000000 in
set_option maxRecDepth 100000 in
theorem delete_small (S : Nat) (l : Lf) (k : Key) (m pk size : Value) (w : World) (hS : SetRow w S m pk (.pointer (some ⟨l.p, 0, none⟩)) (.int .i64 (l.ks.length : Int)) size) (hA : LeafAt w l) (hd : S ∉ Tr.blocks (.leaf l)) (hr : Rising l.ks) (hk : k ∈ l.ks) (h63 : l.ks.length ≤ 63) :
    Calls Yba.prog 24 #[.pointer (some ⟨S, 2, none⟩), .string k] w fun e w' => e = .returned (.bool true) ∧ ∃ t' U V, SetCut S (.leaf l) k m pk size w t' U V w' := by
  have hsn := fun w' a n c n' c' => Lib.run_eql_slice_nil (P := Yba.prog) w' 71 55 a n c n' c' Yba.underlying71
  have d2 := hS.c2
  have d4 := hS.c4
  have df := hS.fz 2
  have n1 := hA.node.c1
  have CM := fun W h1 h2 => mutable_any S l.p (.slice (some ⟨l.kb, 0, none⟩) l.ks.length 63) (.slice none 0 0) W h1 h2
  have hs : ∀ n, (w.drewN n).setCell ⟨S, 2, none⟩ (.pointer (some ⟨l.p, 0, none⟩)) = w.drewN n := fun n => setCell_same (w := w.drewN n) d2
  have hL : ∀ n, LeafAt (w.drewN n) l := fun n => hA.touch ((Touch.refl (fun _ => False) w).drewN n) id id
  have CD := fun W h => delete_leaf S l k W h hr hk h63
  have pass : ∀ n w', Touch (fun b => b = l.p ∨ b = l.kb) (w.drewN n) w' → Touch (fun b => b = l.p ∨ b = l.kb) w w' := fun n w' ht => ((Touch.refl (fun b => b = l.p ∨ b = l.kb) w).drewN n).trans ht (fun _ _ e => e)
  have kS : ¬ (S = l.p ∨ S = l.kb) := by simpa [Tr.blocks] using hd
  have hpS : l.p ≠ S := fun e => kS (.inl e.symm)
  have hkS : l.kb ≠ S := fun e => kS (.inr e.symm)
  go_enter Yba.func24, Yba.ntmps24
  go_upto_region 5 with (first | (go_at_call 30; refine (CM _ (by exact d4) (by exact hA.node)).mono ?_; rintro e w3 ⟨rfl, n, rfl⟩) | (go_at_call 34; refine (CD _ (hL _)).mono ?_; rintro e w4 ⟨rfl, X, Y, hXY', hl4, t4'⟩))
  have t4 := pass _ _ t4'
  have hXY : Hid (l.ks = X ++ k :: Y) := hXY'
  have eXY : l.ks.length = (X ++ Y).length + 1 := by rw [hXY']; simp; omega
  replace hS := hS.touch t4 kS
  rw [eXY] at hS
  have g1 := hl4.node.c1
  have g2 := hl4.node.c2
  have g3 := hS.c3
  have g4 := hS.c2
  have g5 := hS.fz 2
  have g6 := hS.fz 3
  simp only at g1 g2
  have i63 : ((X ++ Y).length : Int) ≤ 63 := by omega
  have ej : (((X ++ Y).length + 1 : Nat) : Int) - 1 = ((X ++ Y).length : Int) := by omega
  have tS : Touch (fun b => b = S ∨ b ∈ Tr.blocks (.leaf l)) w w4 := t4.mono (fun x _ e => .inr (by simpa [Tr.blocks] using e))
  generalize hZ : X ++ Y = Z at *
  have hZ' : Hid (X ++ Y = Z) := hZ
  clear hXY' eXY d2 d4 df n1 CM hs hL CD t4' hZ
  by_cases hz : Z.length = 0
  · have i0 : (Z.length : Int) = 0 := by omega
    have hZ0 : Z = [] := List.length_eq_zero_iff.1 hz
    subst hZ0
    have hc := (hl4.node.touch ((Touch.refl (· = S) w4).setCell (o := 2) (v := .pointer none) (fun _ => rfl)) hpS).c2
    go_wp2_with fail
    go_ret
    refine ⟨rfl, .nil, X, Y, hXY.out, hZ'.out.symm, ?_, trivial, by simp [Tr.blocks], trivial, by simp [Tr.blocks], ((tS.setCell (fun _ => .inl rfl)).setCell (fun _ => .inl rfl))⟩
    exact (hS.set2 (.pointer none)).set3 (.int .i64 0)
  · have i0 : ¬ (Z.length : Int) = 0 := by omega
    go_wp2_with fail
    go_ret
    refine ⟨rfl, .leaf { l with ks := Z }, X, Y, hXY.out, hZ'.out.symm, ?_, hl4.touch ((Touch.refl (· = S) w4).setCell (fun _ => rfl)) hpS hkS, hd, ?_, fun b hb => hb, tS.setCell (fun _ => .inl rfl)⟩
    · exact hS.set3 (.int .i64 (Z.length : Int))
    · show Z.length ≤ 63
      omega

set_option maxHeartbeats 4000000 in
set_option maxRecDepth 100000 in
theorem delete_big (S : Nat) (r : Rt) (k : Key) (m pk size : Value) (w : World) (hS : SetRow w S m pk (.pointer (some ⟨r.p, 0, none⟩)) (.int .i64 (r.flat.length : Int)) size) (hA : RootAt w r) (hd : S ∉ r.blocks) (hr : Rising r.flat) (hk : k ∈ r.flat) (hs : Sizes r.cs) (hks : 1 ≤ r.ks.length) (hlen : r.flat.length ≤ 1024) :
    Calls Yba.prog 24 #[.pointer (some ⟨S, 2, none⟩), .string k] w fun e w' => e = .returned (.bool true) ∧ ∃ t' U V, SetCut S (.two r) k m pk size w t' U V w' := by
  have hsn := fun w' a n c n' c' => Lib.run_eql_slice_nil (P := Yba.prog) w' 71 55 a n c n' c' Yba.underlying71
  have h31 : r.ks.length ≤ 31 := by have := flat_len r w hA hs; omega
  have d2 := hS.c2
  have d4 := hS.c4
  have df := hS.fz 2
  have CM := fun W h1 h2 => mutable_any S r.p (.slice (some ⟨r.kb, 0, none⟩) r.ks.length 63) (.slice (some ⟨r.cb, 0, none⟩) r.cs.length 64) W h1 h2
  have hss : ∀ n, (w.drewN n).setCell ⟨S, 2, none⟩ (.pointer (some ⟨r.p, 0, none⟩)) = w.drewN n := fun n => setCell_same (w := w.drewN n) d2
  have hL : ∀ n, RootAt (w.drewN n) r := fun n => hA.touch ((Touch.refl (fun _ => False) w).drewN n) (fun _ _ => id)
  have CD := fun W hO h => delete_root S r k W hO h hr hk hs hks (by omega)
  have pass : ∀ n w', Touch (· ∈ r.blocks) (w.drewN n) w' → Touch (· ∈ r.blocks) w w' := fun n w' ht => ((Touch.refl (· ∈ r.blocks) w).drewN n).trans ht (fun _ _ e => e)
  go_enter Yba.func24, Yba.ntmps24
  go_upto_region 5 with (first | (go_at_call 30; refine (CM _ (by exact d4) (by exact hA.node)).mono ?_; rintro e w3 ⟨rfl, n, rfl⟩) | (go_at_call 34; refine (CD _ (by exact d4) (hL _)).mono ?_; rintro e w4 ⟨rfl, r', U, V, hG⟩))
  have t4 := pass _ _ hG.tc
  have hlen' : r.flat.length = r'.flat.length + 1 := by rw [hG.old, hG.new]; simp; omega
  replace hS := hS.touch t4 hd
  rw [hlen', ← hG.rp] at hS
  have g1 := hG.at'.node.c1
  have g2 := hG.at'.node.c2
  have g3 := hS.c3
  have g4 := hS.c2
  have g5 := hS.fz 2
  have g6 := hS.fz 3
  have i1024 : (r'.flat.length : Int) ≤ 1024 := by omega
  have ej : ((r'.flat.length + 1 : Nat) : Int) - 1 = (r'.flat.length : Int) := by omega
  have tS : Touch (fun b => b = S ∨ b ∈ Tr.blocks (.two r)) w w4 := t4.mono (fun x _ e => .inr e)
  have hSb : S ∉ r'.blocks := fun e => hd (hG.bl S e)
  have hG' : Hid (Gone r (w.drewN n) k r' U V w4) := hG
  clear hlen' d2 d4 df CM hss hL CD
  by_cases hz : r'.ks.length = 0
  · have hl' := hG.at'.len
    obtain ⟨l, hc⟩ : ∃ l, r'.cs = [l] := by
      rw [hz] at hl'
      match r'.cs, hl' with
      | [l], _ => exact ⟨l, rfl⟩
    have hks0 : r'.ks = [] := List.length_eq_zero_iff.1 hz
    have hfl : r'.flat = l.ks := by
      have e := flat_leaf r' [] [] l [] [] (by simp [hc]) (by simp [hks0]) rfl
      simpa [inter, rest] using e
    have hleaf := hG.at'.leaf l (by rw [hc]; simp)
    have hsz := (hG.sz l (by rw [hc]; simp)).2
    have hcell : w4.cell? ⟨r'.cb, 0, none⟩ = some (.pointer (some ⟨l.p, 0, none⟩)) := hG.at'.kids.cell (by rw [hc]; rfl)
    have hbl : ∀ b ∈ Tr.blocks (.leaf l), b ∈ r'.blocks := fun b hb => by
      simp [Tr.blocks] at hb
      have : b ∈ lblocks r'.cs := mem_lblocks.2 ⟨l, by rw [hc]; simp, hb⟩
      simp [Rt.blocks, this]
    have i0 : (r'.ks.length : Int) = 0 := by omega
    have ic : (0 : Int) < (r'.cs.length : Int) := by rw [hc]; simp
    have hfl' : Hid (r'.flat = l.ks) := hfl
    have hne : ∀ b ∈ Tr.blocks (.leaf l), b ≠ S := fun b hb e => hSb (by rw [← e]; exact hbl b hb)
    clear hfl hz hks0 hc hl' hG
    go_wp2_with fail
    go_ret
    have hG := hG'.out
    have e2 : l.p ≠ S := hne _ (by simp [Tr.blocks])
    have e3 : l.kb ≠ S := hne _ (by simp [Tr.blocks])
    refine ⟨rfl, .leaf l, U, V, hG.old, hfl'.out.symm.trans hG.new, ?_, ?_, fun e => hne S e rfl, hsz, fun b hb => hG.bl b (hbl b hb), (tS.setCell (fun _ => .inl rfl)).setCell (fun _ => .inl rfl)⟩
    · have e := (hS.set2 (.pointer (some ⟨l.p, 0, none⟩))).set3 (.int .i64 (r'.flat.length : Int))
      simp only [Tr.flat, Tr.ptr]
      rw [← hfl'.out]
      exact e
    · exact hleaf.touch (((Touch.refl (· = S) w4).setCell (fun _ => rfl)).setCell (fun _ => rfl)) e2 e3
  · have i0 : ¬ (r'.ks.length : Int) = 0 := by omega
    clear hG
    go_wp2_with fail
    go_ret
    have hG := hG'.out
    refine ⟨rfl, .two r', U, V, hG.old, hG.new, hS.set3 _, hG.at'.touch ((Touch.refl (· = S) w4).setCell (fun _ => rfl)) (fun b hb e => hSb (by rw [← e]; exact hb)), hSb, ⟨hG.sz, by omega⟩, hG.bl, tS.setCell (fun _ => .inl rfl)⟩

theorem delete_set (S : Nat) (t : Tr) (k : Key) (m pk size : Value) (w : World) (hS : SetRow w S m pk t.ptr (.int .i64 (t.flat.length : Int)) size) (hA : t.At w) (hd : S ∉ t.blocks) (hg : t.Good) (hr : Rising t.flat) (hk : k ∈ t.flat) (hlen : t.flat.length ≤ 1024) :
    Calls Yba.prog 24 #[.pointer (some ⟨S, 2, none⟩), .string k] w fun e w' => e = .returned (.bool true) ∧ ∃ t' U V, SetCut S t k m pk size w t' U V w' := by
  cases t with
  | nil => simp [Tr.flat] at hk
  | leaf l => exact delete_small S l k m pk size w hS hA hd hr hk hg
  | two r => exact delete_big S r k m pk size w hS hA hd hr hk hg.1 hg.2 hlen
end Go.Proofs.Ybulkbhty.Tree
