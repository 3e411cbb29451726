import Derived.Test.YbulkbhtyT12
namespace Go.Proofs.Ybulkbhty.Tree
open Go.RowKit Go.WideShapes Go.Lib

theorem keys_pos {w : World} {r : Rt} (h : RootAt w r) (hs : Sizes r.cs) (hl : 64 ≤ r.flat.length) : 1 ≤ r.ks.length := by
  by_cases e : r.ks.length = 0
  · exfalso
    have hl' := h.len
    have e1 : r.ks = [] := List.length_eq_zero_iff.1 e
    match hc : r.cs, hl' with
    | [l], _ =>
      have e2 := flat_leaf r [] [] l [] [] (by simp [hc]) (by simp [e1]) rfl
      have e3 := hs l (by rw [hc]; simp)
      simp [inter, rest] at e2
      rw [e2] at hl
      omega
    | [], hl' => simp at hl'
    | _ :: _ :: _, hl' => simp at hl'; omega
  · omega

set_option maxHeartbeats 4000000 in
set_option maxRecDepth 100000 in
theorem insert_full (S : Nat) (l : Lf) (k : Key) (m pk size : Value) (w : World) (hS : SetRow w S m pk (.pointer (some ⟨l.p, 0, none⟩)) (.int .i64 (l.ks.length : Int)) size) (hA : LeafAt w l) (hd : S ∉ Tr.blocks (.leaf l)) (hr : Rising l.ks) (hk : k ∉ l.ks) (h63 : l.ks.length = 63) :
    Calls Yba.prog 22 #[.pointer (some ⟨S, 2, none⟩), .string k] w fun e w' => e = .returned (.bool true) ∧ ∃ t' X Y, SetPut S (.leaf l) k m pk size w t' X Y w' := by
  have h63' : Hid (l.ks.length = 63) := h63
  rw [h63] at hS
  have d2 := hS.c2
  have d4 := hS.c4
  have df := hS.fz 2
  have n1 := hA.node.c1
  rw [h63] at n1
  have CM := fun W h1 h2 => mutable_any S l.p (.slice (some ⟨l.kb, 0, none⟩) l.ks.length 63) (.slice none 0 0) W h1 h2
  have hs : ∀ n, (w.drewN n).setCell ⟨S, 2, none⟩ (.pointer (some ⟨l.p, 0, none⟩)) = w.drewN n := fun n => setCell_same (w := w.drewN n) d2
  have kS : ¬ (S = l.p ∨ S = l.kb) := by simpa [Tr.blocks] using hd
  have hpS : l.p ≠ S := fun e => kS (.inl e.symm)
  have hkS : l.kb ≠ S := fun e => kS (.inr e.symm)
  have NI := fun W h => newInner S W h
  have l1 := hA.lt1
  have l2 := hA.lt2
  have lS := hS.lt
  have pass : ∀ n w', Touch (fun _ => False) (w.drewN n) w' → Touch (fun _ => False) w w' := fun n w' ht => ((Touch.refl (fun _ => False) w).drewN n).trans ht (fun _ _ e => e)
  go_enter Yba.func22, Yba.ntmps22
  clear h63
  go_upto_region 7 with (first | (go_at_call 30; refine (CM _ (by exact d4) (by exact hA.node)).mono ?_; rintro e w3 ⟨rfl, n, rfl⟩) | (go_at_call 29; refine (NI _ (by exact d4)).mono ?_; rintro e w1 ⟨p, kb, cb, rfl, hN, hV, hX, q1, q2, q3, z1', z2', z3', t1'⟩; have f1 := (hS.touch (pass _ _ t1') id).fz 2; have d1 := (hS.touch (pass _ _ t1') id).c2))
  have t1 := pass _ _ t1'
  have z1 : w.heap.size ≤ p := z1'
  have z2 : w.heap.size ≤ kb := z2'
  have z3 : w.heap.size ≤ cb := z3'
  have pS : p ≠ S := fun e => by omega
  have kbS : kb ≠ S := fun e => by omega
  have cbS : cb ≠ S := fun e => by omega
  have hS1 := (hS.touch t1 id).set2 (.pointer (some ⟨p, 0, none⟩))
  have t2 : Touch (fun b => b = S) w1 (w1.setCell ⟨S, 2, none⟩ (.pointer (some ⟨p, 0, none⟩))) := (Touch.refl (· = S) w1).setCell (fun _ => rfl)
  replace hN := hN.touch t2 pS
  replace hV := hV.touch t2 kbS
  replace hX := hX.touch t2 cbS
  have t3 : Touch (· = S) w (w1.setCell ⟨S, 2, none⟩ (.pointer (some ⟨p, 0, none⟩))) := (t1.mono (fun _ _ e => e.elim)).trans t2 (fun _ _ e => e)
  clear t2
  generalize w1.setCell ⟨S, 2, none⟩ (.pointer (some ⟨p, 0, none⟩)) = w2 at *
  replace hA := hA.touch t3 hpS hkS
  clear d2 d4 df n1 CM hs NI pass f1 d1 hS z1' z2' z3' t1' t1
  have d2 := hS1.c2
  have n2 := hN.c2
  have ba : Touch (fun _ => False) w2 (w2.alloc (.cells #[.pointer (some ⟨l.p, 0, none⟩)] 55)) := (Touch.refl (fun _ => False) w2).alloc _
  have nn2 := (hN.touch ba id).c2
  have dd2 := (hS1.touch ba id).c2
  obtain ⟨i0, hi0, hz1⟩ := parts55
  have mixed : Yba.prog.follows .mixedOrders = true := by kernel_rfl
  obtain ⟨wb, hwb⟩ : ∃ wb, wb = (w2.alloc (.cells #[.pointer (some ⟨l.p, 0, none⟩)] 55)).drew := ⟨_, rfl⟩
  have tb : Touch (fun _ => False) w2 wb := by rw [hwb]; exact ((Touch.refl (fun _ => False) w2).alloc _).drew
  have vone : Vec wb w2.heap.size 55 1 [.pointer (some ⟨l.p, 0, none⟩)] := by rw [hwb]; exact (vec_one w2 _ 55).touch (Touch.refl (fun _ => False) _).drew id
  obtain ⟨w4, hw4⟩ : ∃ w4, w4 = wb.setCells cb (0 + 0 * 1) [.pointer (some ⟨l.p, 0, none⟩)] := ⟨_, rfl⟩
  have hXb := hX.touch tb id
  have t4 : Touch (· = cb) w2 w4 := by rw [hw4]; exact (tb.mono (G := (· = cb)) (fun _ _ e => e.elim)).setCells (fun _ => rfl) _ _
  have hX4 : Vec w4 cb 55 64 [.pointer (some ⟨l.p, 0, none⟩)] := by
    rw [hw4]
    have := Vec.append (w := wb) hXb [.pointer (some ⟨l.p, 0, none⟩)] (by simp)
    simpa using this
  have n4 := (hN.touch t4 q2).c2
  have s4 := (hS1.touch t4 (fun e => cbS e.symm)).c2
  have f4 := (hN.touch t4 q2).fz 2
  have s1 : Hid (([.pointer (some ⟨l.p, 0, none⟩)] : List Value).length = 1 * 1) := rfl
  have hsrc : Hid (∀ t u, ([.pointer (some ⟨l.p, 0, none⟩)] : List Value)[t]? = some u → wb.cell? ((⟨w2.heap.size, 0, none⟩ : Addr).add t) = some u) := fun t u hu => by
    rw [Addr.add_lit]
    refine vone.cell ?_
    simpa using hu
  have s2 : Hid (∀ u ∈ ([.pointer (some ⟨l.p, 0, none⟩)] : List Value), u.oneCell' = true) := fun u hu => by simp at hu; subst hu; rfl
  have s3 : Hid (∀ t, t < ([.pointer (some ⟨l.p, 0, none⟩)] : List Value).length → (wb.cell? ⟨cb, 0 + 0 * 1 + t, none⟩).isSome = true ∧ wb.frozen? ⟨cb, 0 + 0 * 1 + t, none⟩ = false) := fun t ht => ⟨hXb.some (by simp at ht; omega), hXb.frozen _⟩
  rw [hwb] at hsrc s3 hw4
  have hW : Hid (w4 = ((w2.alloc (.cells #[.pointer (some ⟨l.p, 0, none⟩)] 55)).drew).setCells cb (0 + 0 * 1) [.pointer (some ⟨l.p, 0, none⟩)]) := hw4
  clear hw4 hwb tb vone hXb
  go_cut [5] from 43 to 58 (fun v wx => v = .pointer (some ⟨l.p, 0, none⟩) ∧ wx = w4.setCell ⟨p, 2, none⟩ (.slice (some ⟨cb, 0, none⟩) 1 64))
  case first =>
    go_region_law_o (refine step_append_room rfl (.tmp 53) (.tmp 55) 71 rfl 55 i0 1 Yba.underlying71 hi0 hz1 cb 0 0 64 (by simp [Act.eval]) ⟨w2.heap.size, 0, none⟩ 1 1 [.pointer (some ⟨l.p, 0, none⟩)] (by simp [Act.eval]) s1.out hsrc.out s2.out (by omega) s3.out ?_; rw [← hW.out])
    all_goals (go_wp2_with fail; go_meet; exact ⟨rfl, rfl⟩)
  case rest =>
    obtain ⟨rfl, hwc⟩ := hcut
    have tc : Touch (fun b => b = p ∨ b = cb) w2 wc := by rw [hwc]; exact (t4.mono (fun _ _ h => .inr h)).setCell (fun _ => .inl rfl)
    have hN5 : NodeAt wc p (.slice (some ⟨kb, 0, none⟩) 0 63) (.slice (some ⟨cb, 0, none⟩) 1 64) := by rw [hwc]; exact (hN.touch t4 q2).set2 _
    have hX5 : Vec wc cb 55 64 [.pointer (some ⟨l.p, 0, none⟩)] := by rw [hwc]; exact hX4.touch ((Touch.refl (· = p) w4).setCell (fun _ => rfl)) (fun h => q2 h.symm)
    have hV5 := hV.touch tc (fun e => e.elim (fun e => q1 e.symm) q3)
    have hA5 := hA.touch tc (fun e => e.elim (fun e => by omega) (fun e => by omega)) (fun e => e.elim (fun e => by omega) (fun e => by omega))
    have hS5 := hS1.touch tc (fun e => e.elim (fun e => pS e.symm) (fun e => cbS e.symm))
    have t5 : Touch (· = S) w wc := t3.trans tc (fun x hx e => e.elim (fun e => by omega) (fun e => by omega))
    clear hwc hN hX hV hA hS1 t4 tc hX4 n4 s4 f4 s1 hsrc s2 s3 hW ba nn2 dd2 n2 d2 i0 hi0 hz1 mixed t3
    obtain ⟨r, hr0⟩ : ∃ r : Rt, r = ⟨p, kb, cb, [], [l]⟩ := ⟨_, rfl⟩
    have hap : Apart p kb cb [l] := ⟨q1, q2, q3, fun l' hl' => by
      have e : l' = l := by simpa using hl'
      rw [e]
      exact ⟨by omega, by omega, by omega, by omega, by omega, by omega⟩, by simp [lblocks, hA5.ne]⟩
    have hR : RootAt wc r := by
      rw [hr0]
      exact ⟨hN5, hV5, hX5, fun l' hl' => by simp at hl'; subst hl'; exact hA5, apart_iff.2 hap, rfl⟩
    obtain ⟨L, mm, R, hlk, hL, hRl⟩ : ∃ L m R, l.ks = L ++ m :: R ∧ L.length = 31 ∧ R.length = 31 := by
      have h63 := h63'.out
      exact ⟨l.ks.take 31, l.ks[31], l.ks.drop 32, by rw [List.getElem_cons_drop, List.take_append_drop], by simp; omega, by simp; omega⟩
    have SP := fun W hO' h' => split_root S r [] [] l [] [] L R mm W hO' h' (by rw [hr0]; rfl) (by rw [hr0]; rfl) rfl hlk hL hRl (by rw [hr0]; simp)
    have erp : r.p = p := by rw [hr0]
    rw [erp] at SP
    have d2 := hS5.c2
    have d4 := hS5.c4
    have hlk' : Hid (l.ks = L ++ mm :: R) := hlk
    have hr0' : Hid (r = ⟨p, kb, cb, [], [l]⟩) := hr0
    clear hlk hr0 erp
    go_upto_region 9 with (go_at_call 31; refine (SP _ (by exact d4) hR).mono ?_; rintro e w6 ⟨rfl, q, hqk, hq1, hq2, h6, t6⟩)
    have hr0 := hr0'.out
    have hlk := hlk'.out
    obtain ⟨r2, hr2⟩ : ∃ r2 : Rt, r2 = ⟨p, kb, cb, [mm], [{ l with ks := L }, q]⟩ := ⟨_, rfl⟩
    have h6' : RootAt w6 r2 := by rw [hr2]; rw [hr0] at h6; exact h6
    rw [hr0] at t6
    have hsw : wc.heap.size ≤ w6.heap.size := t6.size
    have hsz := t5.size
    have b2 : ∀ b, b ∈ r2.blocks → b = l.p ∨ b = l.kb ∨ w.heap.size ≤ b := fun b hb => by
      rw [hr2] at hb
      simp [Rt.blocks, lblocks] at hb
      rcases hb with rfl | rfl | rfl | rfl | rfl | rfl | rfl
      · omega
      · omega
      · omega
      · exact .inl rfl
      · exact .inr (.inl rfl)
      · omega
      · omega
    have hSb : S ∉ r2.blocks := fun e => by
      rcases b2 S e with e | e | e
      · exact hpS e.symm
      · exact hkS e.symm
      · omega
    have hS6 := hS5.touch t6 (fun e => by
      rcases e with e | e | e | e | e
      · exact pS e.symm
      · exact kbS e.symm
      · exact cbS e.symm
      · exact hpS e.symm
      · exact hkS e.symm)
    have hfl : r2.flat = l.ks := by rw [hlk, hr2]; simp [Rt.flat, flat, hqk]
    have ts : Touch (fun b => b = S ∨ b ∈ Tr.blocks (.leaf l)) w w6 := (t5.mono (fun _ _ e => .inl e)).trans t6 (fun x hx e => by
      simp only [Tr.blocks, List.mem_cons, List.not_mem_nil, or_false]
      rcases e with e | e | e | e | e
      · have e' : x = p := e; omega
      · have e' : x = kb := e; omega
      · have e' : x = cb := e; omega
      · exact .inr (.inl e)
      · exact .inr (.inr e))
    have hkm : k ≠ mm := fun e => hk (by rw [hlk, e]; simp)
    have e2p : r2.p = p := by rw [hr2]
    have CI := fun W hO h => insert_two S r2 k W hO h (by rw [hfl]; exact hr) (by rw [hfl]; exact hk) (by rw [hr2]; simpa using hkm) (by rw [hr2]; simp) (by
      intro l' hl'
      rw [hr2] at hl'
      simp only [List.mem_cons, List.not_mem_nil, or_false] at hl'
      rcases hl' with rfl | rfl
      · simp [hL]
      · simp [hqk, hRl]) (by rw [hr2]; simp)
    rw [e2p] at CI
    have g2 := hS6.c2
    have g4 := hS6.c4
    have e2p' : Hid (r2.p = p) := e2p
    clear hr0 hlk d2 d4 e2p hqk SP hr2
    go_wp2_with (go_at_call 32; refine (CI _ (by exact g4) h6').mono ?_; rintro e w8 ⟨rfl, r', X, Y, hP⟩; have g3 := (hS6.touch hP.tc hSb).c3; have gf := (hS6.touch hP.tc hSb).fz 3)
    go_ret
    have hS8 := hS6.touch hP.tc hSb
    have hold := hP.old
    rw [hfl] at hold
    have eXY : (X ++ k :: Y).length = 64 := by have := h63'.out; rw [hold] at this; simp at this ⊢; omega
    have hSb' : S ∉ r'.blocks := fun e => (hP.bl S e).elim hSb (fun e => by have : w6.heap.size ≤ S := e; omega)
    refine ⟨rfl, .two r', X, Y, hold, hP.lo, hP.hi, hP.new, ?_, ?_, hSb', ⟨hP.sz, ?_⟩, ?_, (ts.trans hP.tc ?_).setCell (fun _ => .inl rfl)⟩
    · have h := hS8.set3 (.int .i64 64)
      simp only [Tr.flat, hP.new, eXY, Tr.ptr, hP.rp, e2p'.out]
      exact h
    · exact hP.at'.touch ((Touch.refl (· = S) w8).setCell (fun _ => rfl)) (fun b hb e => hSb' (by rw [← e]; exact hb))
    · exact keys_pos hP.at' hP.sz (by rw [hP.new, eXY]; omega)
    · intro b hb
      rcases hP.bl b hb with e | e
      · rcases b2 b e with e | e | e
        · exact .inl (by simp [Tr.blocks, e])
        · exact .inl (by simp [Tr.blocks, e])
        · exact .inr e
      · exact .inr (by omega)
    · intro x hx e
      rcases b2 x e with e | e | e
      · exact .inr (by simp [Tr.blocks, e])
      · exact .inr (by simp [Tr.blocks, e])
      · omega

theorem insert_set (S : Nat) (t : Tr) (k : Key) (m pk size : Value) (w : World) (hS : SetRow w S m pk t.ptr (.int .i64 (t.flat.length : Int)) size) (hA : t.At w) (hd : S ∉ t.blocks) (hg : t.Good) (hr : Rising t.flat) (hk : k ∉ t.flat) (hlen : t.flat.length ≤ 1024) :
    Calls Yba.prog 22 #[.pointer (some ⟨S, 2, none⟩), .string k] w fun e w' => e = .returned (.bool true) ∧ ∃ t' X Y, SetPut S t k m pk size w t' X Y w' := by
  cases t with
  | nil => exact insert_nil S k m pk size w hS
  | leaf l =>
    by_cases h : l.ks.length = 63
    · exact insert_full S l k m pk size w hS hA hd hr hk h
    · exact insert_small S l k m pk size w hS hA hd hr hk (by have : l.ks.length ≤ 63 := hg; omega)
  | two r => exact insert_big S r k m pk size w hS hA hd hr hk hg.1 hg.2 hlen
end Go.Proofs.Ybulkbhty.Tree
