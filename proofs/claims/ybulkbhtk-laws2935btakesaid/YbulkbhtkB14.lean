import Derived.Test.YbulkbhtkB13
namespace Go.Proofs.Ybulkbhtk
open Go.RowKit

set_option maxRecDepth 100000 in
set_option maxHeartbeats 2000000 in
theorem lawB_small (a0 a4 : Option Addr) (d c0 nT c4 : Nat) (pu nk mask : Int) (D tu wh pr : Nat → Int) (w : World) (hd : d ≤ 1024) (hT : nT ≤ 1024)
    (p1 : 0 ≤ pu ∧ pu ≤ 255) (p2 : 0 ≤ nk ∧ nk ≤ 255) (p3 : 0 ≤ mask ∧ mask ≤ 255)
    (aD : Arr w a0 d (fun i => .int .u8 (D i))) (bD : ∀ i, i < d → 0 ≤ D i ∧ D i ≤ 255)
    (tk : Tks w a4 nT tu wh pr) (bT : ∀ i, i < nT → 0 ≤ tu i ∧ tu i ≤ 65535) (bW : ∀ i, i < nT → 0 ≤ wh i ∧ wh i ≤ 255) :
    Calls Yba.prog 4 #[.slice a0 d c0, .int .u8 pu, .int .u8 nk, .int .u8 mask, .slice a4 nT c4] w fun e w' => e = .returned (.bool true) ∧ Below w.heap.size w w' := by
  obtain ⟨p10, p11⟩ := p1
  obtain ⟨p20, p21⟩ := p2
  obtain ⟨p30, p31⟩ := p3
  have em : ((d + 1 : Nat) : Int) = (d : Int) + 1 := by omega
  have hmk := run_make_row' (P := Yba.prog) 36 37 (.int .i64 0) 8 Yba.underlying36 info37 rfl .i64 .i64 (d + 1) (by omega) (by omega)
  rw [em] at hmk
  go_enter Yba.func4, Yba.ntmps4
  go_wp2_with (go_at_call 7; refine (ids_any _).mono ?_; rintro e w1 ⟨rfl, rfl⟩)
  go_loopw [14] (fun i wr => ∃ l : Nat, l ≤ d ∧ i = .int .i64 ((l : Int) + 1) ∧ wr.rowIs w.heap.size 9 5 (fun j => .string (idOf j)) ∧ wr.rowIs (w.heap.size + 1) 37 (d + 1) (fun j => .int .i64 (if j < l + 1 then mkOf D j else 0)) ∧ Below w.heap.size w wr ∧ wr.heap.size = w.heap.size + 2) (fun i _ => d + 1 - (intOf i).toNat)
  case atStart =>
    have r0 := (World.rowIs_alloc w #[.string (idOf 0), .string (idOf 1), .string (idOf 2), .string (idOf 3), .string (idOf 4)] 9 (fun j => .string (idOf j)) (by
      intro i hi
      match i, hi with
      | 0, _ => rfl
      | 1, _ => rfl
      | 2, _ => rfl
      | 3, _ => rfl
      | 4, _ => rfl)).alloc (.cells (madeCells #[.int .i64 0] (d + 1)) 37)
    have r1 := World.rowIs_made (w.alloc (.cells #[.string (idOf 0), .string (idOf 1), .string (idOf 2), .string (idOf 3), .string (idOf 4)] 9)) (.int .i64 0) (d + 1) 37
    have e1 : (w.alloc (.cells #[.string (idOf 0), .string (idOf 1), .string (idOf 2), .string (idOf 3), .string (idOf 4)] 9)).heap.size = w.heap.size + 1 := by simp
    rw [e1] at r1
    refine ⟨0, Nat.zero_le _, rfl, r0, r1.congr fun j _ => ?_, ((Below.refl _ _).alloc (Nat.le_refl _) _).alloc (by simp) _, by simp⟩
    match j with
    | 0 => simp [mkOf]
    | j + 1 => simp
  case round =>
    obtain ⟨l, hl, rfl, rI, hr, hb, hz⟩ := hrel
    by_cases hlt : l < d
    · rcases aD with h0 | ⟨b, off, rfl, hc⟩
      · omega
      have c1 : wr.cell? ⟨b, off + l, none⟩ = some (.int .u8 (D l)) := (hb.cell (p := ⟨b, off + l, none⟩) (lt_of_cell (hc l hlt))).trans (hc l hlt)
      obtain ⟨d0, d1⟩ := bD l hlt
      have c2 := hr.cell (show l < d + 1 by omega)
      simp only [show l < l + 1 by omega, if_true] at c2
      have c3 := hr.cell (show l + 1 < d + 1 by omega)
      have f3 := hr.frozen (l + 1)
      have bm := mkOf_bd D l
      have h1 := Int.emod_nonneg (D l) (show (100 : Int) ≠ 0 by omega)
      have h2 := Int.emod_lt_of_pos (D l) (show (0 : Int) < 100 by omega)
      have R := mrow_set hr
      have e3 : mkOf D (l + 1) = mkOf D l + 1 + D l % 100 := rfl
      rw [e3] at R
      clear hr hc bD tk bT bW
      go_upto_region 9 with fail
      go_region
      all_goals
        go_wp2
        go_roundw
        case rel => exact ⟨l + 1, by omega, by go_num, (rI.setOther (a := ⟨w.heap.size + 1, l + 1, none⟩) (by show w.heap.size ≠ w.heap.size + 1; omega) _).drew, R, (hb.setCell (p := ⟨w.heap.size + 1, l + 1, none⟩) (by show w.heap.size ≤ w.heap.size + 1; omega) _).drew, by simp [World.setCell, hz]⟩
        case measure => simp [intOf]; omega
    · obtain rfl : l = d := by omega
      have hr' : wr.rowIs (w.heap.size + 1) 37 (l + 1) (fun j => .int .i64 (mkOf D j)) := hr.congr (fun j hj => by simp [hj])
      clear hr aD bD hmk hlt
      obtain ⟨pub, hpub⟩ : ∃ pub : Nat, pu % ((l : Int) + 1) = (pub : Int) := ⟨(pu % ((l : Int) + 1)).toNat, by have := Int.emod_nonneg pu (show ((l : Int) + 1) ≠ 0 by omega); omega⟩
      have hpub1 : pub < l + 1 := by have := Int.emod_lt_of_pos pu (show 0 < ((l : Int) + 1) by omega); omega
      obtain ⟨n, hnn⟩ : ∃ n : Nat, nk % 4 + 1 = (n : Int) := ⟨(nk % 4 + 1).toNat, by omega⟩
      have n1 : 1 ≤ n := by omega
      have n2 : n ≤ 4 := by omega
      have hmkC := run_make_row' (P := Yba.prog) 24 3 (.int .i64 0) 8 Yba.underlying24 info3 rfl .i64 .i64 n (by omega) (by omega)
      have hmkI := run_make_row' (P := Yba.prog) 39 24 (.slice none 0 0) 24 Yba.underlying39 info24 rfl .i64 .i64 n (by omega) (by omega)
      have hmkU : ∀ w, (Instr.makeSlice 24 (.int .i64 2) (.int .i64 2)).run Yba.prog w = .ok (.slice (some ⟨w.heap.size, 0, none⟩) 2 2) (w.alloc (.cells (madeCells #[.int .i64 0] 2) 3)) := run_make_row' (P := Yba.prog) 24 3 (.int .i64 0) 8 Yba.underlying24 info3 rfl .i64 .i64 2 (by omega) (by omega)
      have hmm := @run_makeMap Yba.prog
      have HP : Hid (pu % ((l : Int) + 1) = (pub : Int)) := hpub
      clear hpub
      go_upto_region 16 with fail
      rename_i K1 a1 K2 a2
      have HK : Hid (∀ a w', Code.wp Yba.prog ((Yba.f4.body.bind (dropTo 27)).getD .skip) (bodyPost Yba.prog Yba.f4 fun e w' => e = Ending.returned (Value.bool true) ∧ Below w.heap.size w w') a w' → K1 a w') := a1
      clear a1
      go_wp2
      rw [HP.out]
      go_loopg [21] n (fun gk i wx => ∃ k : Nat, k ≤ n ∧ gk = n - k ∧ i = .int .i64 k ∧ (∃ ia ic, Set2 w.heap.size n (l + 1) (mkOf D) k ia ic (ilOf mask) wx) ∧ Below w.heap.size w wx)
      case atStart =>
        refine ⟨0, Nat.zero_le _, rfl, rfl, ⟨fun _ => none, fun _ => 0, ?_⟩, (((hb.alloc (by omega) _).alloc (by simp; omega) _).alloc (by simp; omega) _).alloc (by simp; omega) _⟩
        exact set2_start w.heap.size n (l + 1) (mkOf D) (ilOf mask) wr hz rI hr'
      case round =>
        obtain ⟨k, hk, hgk, rfl, ⟨ia, ic, hS⟩, hb2⟩ := hrel
        have HGK : Hid (gk = n - k) := hgk
        clear hgk
        by_cases hlt : k < n
        · obtain ⟨i0, hi, hz0, hz1, hz2⟩ := info_parts info3
          have cI := hS.ids.cell (show k < 5 by omega)
          go_upto_region 20 with (at_mapUpdate; go_loud (refine wpList_mapUpdate_own _ rfl _ _ _ 38 rfl 9 3 law9 Yba.underlying38 _ (w.heap.size + 2) k _ rfl hS.pos (by unfold maxLen; omega) _ _ _ rfl rfl (Go.WideMaps.keyOf_string_mk Yba.underlying9 (idOf_size k)) _ [] (plainElem_int Yba.underlying3 (WalkArith.wf_i64 (by omega))) ?_); intro w1 hp1 hg1)
          have M1 := hS.mid (w1 := w1) hp1 hg1
          have gs := hg1.size
          have szB := hS.sz
          have B1 : Below w.heap.size w (w1.setCell ⟨w.heap.size + 2 + 1, k, none⟩ (.int .i64 (2 * (k : Int) + 1))) :=
            (hb2.grown hg1 (by omega) (by intro j hj; simp at hj; omega)).setCell (by show w.heap.size ≤ w.heap.size + 2 + 1; omega) _
          have cC := (grown_row hS.col hg1 (by simp)).cell hlt
          have fC := (grown_row hS.col hg1 (by simp)).frozen k
          clear hS hp1 hg1 hb2 cI
          go_upto_if 118 with fail
          clear cC fC gs szB
          generalize w1.setCell ⟨w.heap.size + 2 + 1, k, none⟩ (.int .i64 (2 * (k : Int) + 1)) = W1 at M1 B1 ⊢
          generalize wr.heap.size = base at M1
          obtain ⟨uc, huc⟩ : ∃ uc : Nat → Int, uc = fun e => cntU e (ilOf mask) (fun _ => false) k := ⟨_, rfl⟩
          have buc : ∀ e, 0 ≤ uc e ∧ uc e ≤ 4 := fun e => by have := cntU_le e (ilOf mask) (fun _ => false) k; rw [huc]; dsimp only; omega
          have cu1 : ∀ e, e < 2 → upd (upd uc 0 (uc 0 + (l0 mask k).length)) 1 (uc 1 + (l1 mask k).length) e = cntU e (ilOf mask) (fun _ => false) (k + 1) := by rw [huc]; exact fun e he => uc_step mask k e he
          rw [← huc] at M1
          have HUC : Hid (∀ e, e < 2 → upd (upd uc 0 (uc 0 + (l0 mask k).length)) 1 (uc 1 + (l1 mask k).length) e = cntU e (ilOf mask) (fun _ => false) (k + 1)) := cu1
          clear cu1 huc
          have u0 := buc 0
          have u1 := buc 1
          clear buc
          go_cut [21] (fun i wx => i = .int .i64 k ∧ (∃ v c, Mid w.heap.size n (l + 1) (mkOf D) k ia ic (ilOf mask) base (.slice v (l0 mask k).length c) (l0 mask k) (upd uc 0 (uc 0 + (l0 mask k).length)) wx) ∧ Below w.heap.size w wx)
          case first =>
            by_cases hb0 : (bits BinOp.and IntKind.u8 (mask / 2 ^ k) 1 == 1) = true
            · have cI := M1.ins.cell hlt
              simp only [Nat.lt_irrefl, if_false, if_true] at cI
              have MA := M1.alloc (.cells #[.int .i64 0] 3)
              have szb := M1.sz
              have sb := M1.sb
              go_upto_region 23 with (at_builtin; (refine wpList_append_own _ rfl _ _ 24 rfl base 3 i0 (.int .i64 0) 1 8 Yba.underlying24 hi hz0 hz1 hz2 rfl (by decide) (.slice none 0 0) 0 [] rfl MA.own ⟨W1.heap.size, 0, none⟩ 1 1 [.int .i64 0] rfl rfl (cell_one_new _ _ _) (by simp [Value.oneCell']) (by decide) (by decide) MA.sb ?_); intro v' w2 ho2 hg2 hn2; obtain ⟨a2, c2, hv2⟩ := own_shape ho2; rw [hv2] at ho2 ⊢; clear hv2 hn2; have rI2 := grown_row MA.ins hg2 (by simp [Value.ownBlock]); have cI2 := rI2.cell hlt; have fI2 := rI2.frozen k; have M2 := MA.append hg2 ho2; clear ho2 MA rI2)
              have B2 : Below w.heap.size w (w2.setCell ⟨w.heap.size + 2 + 1 + 1, k, none⟩ (.slice a2 1 c2)) :=
                ((B1.alloc (by omega) _).grown hg2 (by simp; omega) (by intro j hj; simp [Value.ownBlock] at hj)).setCell (by show w.heap.size ≤ w.heap.size + 2 + 1 + 1; omega) _
              have cU := M2.uns.cell (show 0 < 2 by omega)
              have fU := M2.uns.frozen 0
              have M3 := M2.count 0 (uc 0 + 1)
              have B3 := B2.setCell (p := ⟨w.heap.size + 2 + 1 + 1 + 1, 0, none⟩) (by show w.heap.size ≤ w.heap.size + 2 + 1 + 1 + 1; omega) (.int .i64 (uc 0 + 1))
              have el : l0 mask k = [0] := by simp [l0, b0, hb0]
              have HM : Hid (∃ v c, Mid w.heap.size n (l + 1) (mkOf D) k ia ic (ilOf mask) base (.slice v (l0 mask k).length c) (l0 mask k) (upd uc 0 (uc 0 + (l0 mask k).length)) ((w2.setCell ⟨w.heap.size + 2 + 1 + 1, k, none⟩ (.slice a2 1 c2)).setCell ⟨w.heap.size + 2 + 1 + 1 + 1, 0, none⟩ (.int .i64 (uc 0 + 1)))) := by
                rw [el]; exact ⟨a2, c2, M3⟩
              clear M2 M3 M1 hg2 cI cI2 fI2 B2 el
              generalize w2.setCell ⟨w.heap.size + 2 + 1 + 1, k, none⟩ (.slice a2 1 c2) = W2 at cU fU HM B3 ⊢
              go_wp2
              go_meet
              case rel => exact ⟨rfl, HM.out, B3⟩
            · have el : l0 mask k = [] := by simp [l0, b0, hb0]
              have HM : Hid (∃ v c, Mid w.heap.size n (l + 1) (mkOf D) k ia ic (ilOf mask) base (.slice v (l0 mask k).length c) (l0 mask k) (upd uc 0 (uc 0 + (l0 mask k).length)) W1) := by
                rw [el]
                exact ⟨none, 0, by rw [upd_self _ _ _ (by simp)]; exact M1⟩
              clear M1 el
              have hb0' : (bits BinOp.and IntKind.u8 (mask / 2 ^ k) 1 == 1) = false := by simpa using hb0
              clear hb0
              go_wp2
              go_meet
              case rel => exact ⟨rfl, HM.out, B1⟩
          case rest =>
            obtain ⟨rfl, ⟨va, vc, M2⟩, B2⟩ := hcut
            clear M1 B1
            go_upto_if 139 with fail
            have e0 : ((l0 mask k).length : Int) ≤ 1 := by unfold l0; split <;> simp
            have e0' : (l0 mask k).length ≤ 1 := by omega
            by_cases hb1 : (bits BinOp.and IntKind.u8 (mask / 2 ^ (k + 4)) 1 == 1) = true
            · have cI := M2.ins.cell hlt
              simp only [Nat.lt_irrefl, if_false, if_true] at cI
              have MA := M2.alloc (.cells #[.int .i64 1] 3)
              have szb := M2.sz
              have sb := M2.sb
              have ob := M2.own.lt
              go_upto_region 26 with (at_builtin; (refine wpList_append_own _ rfl _ _ 24 rfl base 3 i0 (.int .i64 0) 1 8 Yba.underlying24 hi hz0 hz1 hz2 rfl (by decide) (.slice va (l0 mask k).length vc) _ _ rfl MA.own ⟨wc.heap.size, 0, none⟩ 1 1 [.int .i64 1] rfl rfl (cell_one_new _ _ _) (by simp [Value.oneCell']) (by unfold maxLen; omega) (by omega) MA.sb ?_); intro v' w2 ho2 hg2 hn2; obtain ⟨a2, c2, hv2⟩ := own_shape ho2; rw [hv2] at ho2 ⊢; clear hv2 hn2; have rI2 := grown_row MA.ins hg2 (fun e => by have := (ob _ e.symm).1; omega); have cI2 := rI2.cell hlt; have fI2 := rI2.frozen k; have M3 := MA.append hg2 ho2; clear ho2 MA rI2)
              have B3 : Below w.heap.size w (w2.setCell ⟨w.heap.size + 2 + 1 + 1, k, none⟩ (.slice a2 ((l0 mask k).length + 1) c2)) :=
                ((B2.alloc (by omega) _).grown hg2 (by simp; omega) (by intro j hj; have := (ob j hj).1; omega)).setCell (by show w.heap.size ≤ w.heap.size + 2 + 1 + 1; omega) _
              have cU := M3.uns.cell (show 1 < 2 by omega)
              simp only [upd, show ¬ (1 = 0) by omega, if_false] at cU
              have fU := M3.uns.frozen 1
              have M4 := M3.count 1 (uc 1 + 1)
              have B4 := B3.setCell (p := ⟨w.heap.size + 2 + 1 + 1 + 1, 1, none⟩) (by show w.heap.size ≤ w.heap.size + 2 + 1 + 1 + 1; omega) (.int .i64 (uc 1 + 1))
              have el : l1 mask k = [1] := by simp [l1, b1, hb1]
              have HM : Hid (∃ ia' ic', Set2 w.heap.size n (l + 1) (mkOf D) (k + 1) ia' ic' (ilOf mask) ((w2.setCell ⟨w.heap.size + 2 + 1 + 1, k, none⟩ (.slice a2 ((l0 mask k).length + 1) c2)).setCell ⟨w.heap.size + 2 + 1 + 1 + 1, 1, none⟩ (.int .i64 (uc 1 + 1)))) := by
                have h1 := HUC.out
                rw [el] at h1
                refine Mid.done (ia := ia) (ic := ic) (uc := upd (upd uc 0 (uc 0 + (l0 mask k).length)) 1 (uc 1 + 1)) (v := .slice a2 ((l0 mask k).length + 1) c2) (base := base) ?_ h1
                rw [ilOf, el]; exact M4
              clear M2 M3 M4 hg2 cI cI2 fI2 B2 B3 el ob
              generalize w2.setCell ⟨w.heap.size + 2 + 1 + 1, k, none⟩ (.slice a2 ((l0 mask k).length + 1) c2) = W2 at cU fU HM B4 ⊢
              go_wp2
              go_roundg (n - (k + 1))
              case measure => have := HGK.out; omega
              case rel => exact ⟨k + 1, by omega, rfl, by go_num, HM.out, B4⟩
            · have el : l1 mask k = [] := by simp [l1, b1, hb1]
              have HM : Hid (∃ ia' ic', Set2 w.heap.size n (l + 1) (mkOf D) (k + 1) ia' ic' (ilOf mask) wc) := by
                have h1 := HUC.out
                rw [el] at h1
                refine Mid.done (ia := ia) (ic := ic) (uc := upd uc 0 (uc 0 + (l0 mask k).length)) (v := .slice va (l0 mask k).length vc) (base := base) (by rw [ilOf, el, List.append_nil]; exact M2) (fun e he => by rw [← h1 e he]; exact upd_same uc _ e)
              clear M2 el
              have hb1' : (bits BinOp.and IntKind.u8 (mask / 2 ^ (k + 4)) 1 == 1) = false := by simpa using hb1
              clear hb1
              go_wp2
              go_roundg (n - (k + 1))
              case measure => have := HGK.out; omega
              case rel => exact ⟨k + 1, by omega, rfl, by go_num, HM.out, B2⟩
        · obtain rfl : k = n := by omega
          clear hmkC hmkI hmkU hmm rI hr' hb hz HGK hk hlt
          go_wp2
          exact HK.out _ _ (rest27 hS hb2 n1 n2 hd hpub1 (fun i j h _ => mkOf_lt D i j h) hT tk bT bW)
end Go.Proofs.Ybulkbhtk
