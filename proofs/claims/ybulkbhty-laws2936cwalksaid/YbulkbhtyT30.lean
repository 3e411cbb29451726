import Derived.Test.YbulkbhtyT29
import Derived.Deep.CutBlock
import Derived.OwnWalk
namespace Go.Proofs.Ybulkbhty.Tree
open Go.RowKit Go.WideShapes Go.Lib Go.Maps

theorem sset_any (S : Nat) (t : Tr) (m : Value) (p sz : Int) (M M' : List (Key × Value)) (k : Key) (v : Value) (del : Bool) (w : World) (h : St w S t m p sz M) (hk : k.size ≤ maxLen) (hv : SliceV v) (hn : M.length ≤ 1024) (hM : ∀ u, look M k = some u → SliceV u) (hp : if del then Dels M k M' else Puts M k v M') :
    Calls Yba.prog 16 #[.pointer (some ⟨S, 0, none⟩), .string k, .agg #[v, .bool (!del)]] w fun e w' => e = .returned (.tuple #[]) ∧ ∃ t' m' p' sz', StNext S t m w M' t' m' p' sz' w' := by
  cases del with
  | true =>
    cases hl : look M k with
    | none => exact del_new S t m p sz M M' k v w h hk hn hp hl
    | some u => exact del_old S t m p sz M M' k v w h hk hn hp u hl (hM u hl)
  | false =>
    cases hl : look M k with
    | none => exact set_new S t m p sz M M' k v w h hk hv hn hp hl
    | some u => exact set_old S t m p sz M M' k v w h hk hv hn hp u hl (hM u hl)

theorem Val.sliceV {w : World} {v : Value} (h : Val w v) : SliceV v := by obtain ⟨p, n, c, xs, rfl, _, hm, _⟩ := h; exact ⟨p, n, c, rfl, hm⟩

theorem nameOf_small {key : Int} {name : Key} (h : name.size ≤ 140737488355328) : (nameOf key name).size ≤ 140737488355328 := by
  unfold nameOf
  have h1 : (⟨#[]⟩ : Key).size ≤ 140737488355328 := by decide
  have h2 : (⟨#[97]⟩ : Key).size ≤ 140737488355328 := by decide
  have h3 : (⟨#[97, 98]⟩ : Key).size ≤ 140737488355328 := by decide
  have h4 : (⟨#[98]⟩ : Key).size ≤ 140737488355328 := by decide
  have h5 : (⟨#[97, 0]⟩ : Key).size ≤ 140737488355328 := by decide
  have h6 : (⟨#[255]⟩ : Key).size ≤ 140737488355328 := by decide
  repeat' split
  all_goals assumption

structure Fresh (S : Nat) (t : Tr) (m model : Value) (w : World) (q : Key × Value) : Prop where
  val : Val w q.2
  key : q.1.size ≤ 140737488355328
  blk : ∀ b, q.2.ownBlock = some b → ¬ Foot S t m b ∧ model.ownBlock ≠ some b ∧ b < w.heap.size

structure BI (w0 : World) (S : Nat) (wx : World) (model : Value) (M : List (Key × Value)) (t : Tr) (m : Value) (p sz : Int) (j : Nat) : Prop where
  st : St wx S t m p sz M
  ma : MA wx model M
  nd : (M.map (·.1)).Nodup
  len : M.length ≤ j
  vals : ∀ q ∈ M, Fresh S t m model wx q
  mf : ∀ b, model.ownBlock = some b → ¬ Foot S t m b ∧ w0.heap.size ≤ b
  ab : ∀ b, Foot S t m b → w0.heap.size ≤ b
  tc : Touch (fun _ => False) w0 wx

theorem Fresh.touch {S : Nat} {t : Tr} {m model : Value} {w w' : World} {q : Key × Value} (h : Fresh S t m model w q) (ht : Touch (fun _ => False) w w') : Fresh S t m model w' q :=
  ⟨h.val.touch ht (fun _ _ => id), h.key, fun b hb => ⟨(h.blk b hb).1, (h.blk b hb).2.1, Nat.lt_of_lt_of_le (h.blk b hb).2.2 ht.size⟩⟩
theorem BI.touch {w0 : World} {S : Nat} {wx w' : World} {model : Value} {M : List (Key × Value)} {t : Tr} {m : Value} {p sz : Int} {j : Nat} (h : BI w0 S wx model M t m p sz j) (ht : Touch (fun _ => False) wx w') : BI w0 S w' model M t m p sz j :=
  ⟨h.st.touch ht (fun _ _ => id), h.ma.touch ht (fun _ _ => id), h.nd, h.len, fun q hq => (h.vals q hq).touch ht, h.mf, h.ab, h.tc.trans ht (fun _ _ e => e)⟩

theorem BI.next {w0 : World} {S : Nat} {w3 w4 w5 : World} {model model' : Value} {M M' : List (Key × Value)} {t t' : Tr} {m m' : Value} {p sz p' sz' : Int} {j : Nat} (h : BI w0 S w3 model M t m p sz j) (nx : StNext S t m w3 M' t' m' p' sz' w4)
    (up : Touch (fun b => model.ownBlock = some b) w4 w5) (hma : MA w5 model' M') (hmo : model'.ownBlock = model.ownBlock ∨ ∃ b, model'.ownBlock = some b ∧ w4.heap.size ≤ b) (hnd : (M'.map (·.1)).Nodup) (hlen : M'.length ≤ j + 1)
    (hvals : ∀ q ∈ M', q ∈ M ∨ Fresh S t m model w3 q) : BI w0 S w5 model' M' t' m' p' sz' (j + 1) := by
  have z := nx.tc.size
  have hf' : ∀ b, b < w3.heap.size → ¬ Foot S t m b → ¬ Foot S t' m' b := fun b hb hn e => (nx.ft b e).elim hn (fun e => by omega)
  have hmb : ∀ b, model.ownBlock = some b → ¬ Foot S t' m' b := fun b hb => hf' b (h.ma.lt b hb) (h.mf b hb).1
  have hnew : ∀ b, model'.ownBlock = some b → model.ownBlock = some b ∨ w4.heap.size ≤ b := fun b hb => by
    rcases hmo with e | ⟨b', e, hb'⟩
    · exact .inl (by rw [← e]; exact hb)
    · rw [e] at hb; cases hb; exact .inr hb'
  refine ⟨nx.st.touch up (fun b hb e => hmb b e hb), hma, hnd, hlen, fun q hq => ?_, fun b hb => ?_, fun b hb => ?_, ?_⟩
  · have hF : Fresh S t m model w3 q := (hvals q hq).elim (h.vals q) id
    refine ⟨(hF.val.touch nx.tc (fun b hb => (hF.blk b hb).1)).touch up (fun b hb => (hF.blk b hb).2.1), hF.key, fun b hb => ?_⟩
    obtain ⟨e1, e2, e3⟩ := hF.blk b hb
    refine ⟨hf' b e3 e1, fun e => ?_, ?_⟩
    · rcases hnew b e with e | e
      · exact e2 e
      · omega
    · have := up.size; omega
  · rcases hnew b hb with e | e
    · exact ⟨hmb b e, (h.mf b e).2⟩
    · refine ⟨fun e' => ?_, ?_⟩
      · have := nx.st.lt b e'; omega
      · have := h.tc.size; omega
  · rcases nx.ft b hb with e | e
    · exact h.ab b e
    · have := h.tc.size; omega
  · refine (h.tc.trans nx.tc (fun x hx e => ?_)).trans up (fun x hx e => ?_)
    · have := h.ab x e; omega
    · have := (h.mf x e).2; omega

theorem plan_step (M : List (Key × Value)) (k : Key) (v : Value) (d : Bool) (hnd : (M.map (·.1)).Nodup) : ∃ M', (if d then Dels M k M' else Puts M k v M') ∧ (M'.map (·.1)).Nodup ∧ M'.length ≤ M.length + 1 ∧ (∀ q ∈ M', q ∈ M ∨ q = (k, v)) ∧
    ((look M k = none ∧ M' = if d then M else M ++ [(k, v)]) ∨ ∃ X u Y, M = X ++ (k, u) :: Y ∧ k ∉ X.map (·.1) ∧ M' = if d then X ++ Y else X ++ (k, v) :: Y) := by
  cases hl : look M k with
  | none =>
    have hk := look_none.1 hl
    refine ⟨if d then M else M ++ [(k, v)], ?_, ?_, ?_, ?_, .inl ⟨rfl, rfl⟩⟩
    · cases d
      · exact puts_new hl
      · exact dels_new hl
    · cases d
      · simp only [Bool.false_eq_true, if_false, List.map_append, List.map_cons, List.map_nil]
        rw [List.nodup_append]
        refine ⟨hnd, by simp, fun a ha b hb e => ?_⟩
        simp at hb
        exact hk (by rw [← hb, ← e]; exact ha)
      · exact hnd
    · cases d <;> simp
    · cases d
      · intro q hq; simp at hq; rcases hq with h | h
        · exact .inl h
        · exact .inr h
      · intro q hq; exact .inl hq
  | some u =>
    obtain ⟨X, Y, rfl, hX⟩ := split_look hl
    have e : (X ++ (k, v) :: Y).map (·.1) = (X ++ (k, u) :: Y).map (·.1) := by simp
    refine ⟨if d then X ++ Y else X ++ (k, v) :: Y, ?_, ?_, ?_, ?_, .inr ⟨X, u, Y, rfl, hX, rfl⟩⟩
    · cases d
      · exact puts_old hX
      · exact dels_old hnd
    · cases d
      · show ((X ++ (k, v) :: Y).map (·.1)).Nodup
        rw [e]; exact hnd
      · refine hnd.sublist ?_
        simp only [if_true]
        exact List.Sublist.map _ (List.Sublist.append_left (List.sublist_cons_self _ _) _)
    · cases d <;> simp <;> omega
    · cases d
      · intro q hq; simp at hq ⊢
        rcases hq with h | h | h
        · exact .inl (.inl h)
        · exact .inr h
        · exact .inl (.inr (.inr h))
      · intro q hq; simp at hq ⊢
        rcases hq with h | h
        · exact .inl (.inl h)
        · exact .inl (.inr (.inr h))

theorem split_unique {X Y X' Y' : List (Key × Value)} {k : Key} {u u' : Value} (h : X ++ (k, u) :: Y = X' ++ (k, u') :: Y') (hX : k ∉ X.map (·.1)) (hX' : k ∉ X'.map (·.1)) : X = X' ∧ Y = Y' := by
  induction X generalizing X' with
  | nil =>
    cases X' with
    | nil => simp at h; exact ⟨rfl, h.2⟩
    | cons a X' => simp at h; exact absurd (by simp [← h.1]) hX'
  | cons a X ih =>
    cases X' with
    | nil => simp at h; exact absurd (by simp [h.1]) hX
    | cons b X' =>
      simp only [List.cons_append, List.cons.injEq] at h
      have e := ih h.2 (fun e => hX (by simp only [List.map_cons, List.mem_cons]; exact .inr e)) (fun e => hX' (by simp only [List.map_cons, List.mem_cons]; exact .inr e))
      exact ⟨by rw [h.1, e.1], e.2⟩

theorem vec_cells4 (w : World) (a b c d : Value) (t : Nat) : Vec (w.alloc (.cells #[a, b, c, d] t)) w.heap.size t 4 [a, b, c, d] := by
  refine ⟨fun j => if j = 0 then a else if j = 1 then b else if j = 2 then c else d, World.rowIs_alloc w #[a, b, c, d] t _ (fun j hj => ?_), by simp, fun j x hj => ?_⟩
  · have h1 : j < 4 := hj
    rcases show j = 0 ∨ j = 1 ∨ j = 2 ∨ j = 3 by omega with rfl | rfl | rfl | rfl <;> rfl
  · match j, hj with
    | 0, hj => simpa using hj
    | 1, hj => simpa using hj
    | 2, hj => simpa using hj
    | 3, hj => simpa using hj

/-- The operations as they came in. -/
structure OpsAt (w : World) (ob oo N : Nat) (ky : Nat → Int) (nm : Nat → Key) (dl : Nat → Bool) (vl : Nat → Value) : Prop where
  c0 : ∀ j, j < N → w.cell? ⟨ob, oo + j * 4, none⟩ = some (.int .u8 (ky j))
  c1 : ∀ j, j < N → w.cell? ⟨ob, oo + j * 4 + 1, none⟩ = some (.string (nm j))
  c2 : ∀ j, j < N → w.cell? ⟨ob, oo + j * 4 + 2, none⟩ = some (.bool (dl j))
  c3 : ∀ j, j < N → w.cell? ⟨ob, oo + j * 4 + 3, none⟩ = some (vl j)
  k : ∀ j, j < N → 0 ≤ ky j ∧ ky j ≤ 255
  n : ∀ j, j < N → (nm j).size ≤ 140737488355328
  v : ∀ j, j < N → Val w (vl j)
  b : ∀ j, j < N → ∀ p n c, vl j = .slice p n c → n ≤ 140737488355328

theorem cell_keep {w w' : World} {a : Addr} {v : Value} (ht : Touch (fun _ => False) w w') (h : w.cell? a = some v) : w'.cell? a = some v := by
  have hlt : a.block < w.heap.size := World.block_lt_of_cell? w a (by rw [h])
  rw [World.cell?_of_block (ht.block a.block hlt id)]
  exact h

theorem OpsAt.touch {w w' : World} {ob oo N : Nat} {ky : Nat → Int} {nm : Nat → Key} {dl : Nat → Bool} {vl : Nat → Value} (h : OpsAt w ob oo N ky nm dl vl) (ht : Touch (fun _ => False) w w') : OpsAt w' ob oo N ky nm dl vl :=
  ⟨fun j hj => cell_keep ht (h.c0 j hj), fun j hj => cell_keep ht (h.c1 j hj), fun j hj => cell_keep ht (h.c2 j hj), fun j hj => cell_keep ht (h.c3 j hj), h.k, h.n, fun j hj => (h.v j hj).touch ht (fun _ _ => id), h.b⟩

set_option maxHeartbeats 4000000 in
set_option maxRecDepth 100000 in
theorem build_any (ob oo N c : Nat) (ky : Nat → Int) (nm : Nat → Key) (dl : Nat → Bool) (vl : Nat → Value) (w : World) (hops : OpsAt w ob oo N ky nm dl vl) (hN : N ≤ 1024) :
    Calls Yba.prog 8 #[.slice (some ⟨ob, oo, none⟩) N c] w fun e w' => ∃ model M t m p sz, e = .returned (.tuple #[.pointer (some ⟨w.heap.size, 0, none⟩), model]) ∧ BI w w.heap.size w' model M t m p sz N := by
  have NI := newItemSet_any w
  go_enter Yba.func8, Yba.ntmps8
  go_upto_region 4 with (go_at_call 13; refine NI.mono ?_; rintro e w1 ⟨rfl, hst, t1⟩)
  go_loopw [5, 6, 7, 8, 9, 10, 11] (fun model i _ _ _ _ _ wx => ∃ (j : Nat) (M : List (Key × Value)) (t : Tr) (m : Value) (p sz : Int), i = .int .i64 (j : Int) ∧ j ≤ N ∧ BI w w.heap.size wx model M t m p sz j) (fun _ i _ _ _ _ _ _ => N - (match i with | .int _ z => z.toNat | _ => 0))
  case atStart =>
    refine ⟨0, [], .nil, .map none, 0, 0, rfl, Nat.zero_le _, hst, .inl ⟨rfl, rfl⟩, List.nodup_nil, Nat.le_refl _, fun q hq => by simp at hq, fun b hb => by simp [Value.ownBlock] at hb, fun b hb => ?_, t1⟩
    rcases hb with e | e | e
    · omega
    · simp [Tr.blocks] at e
    · simp [mblk] at e
  case round =>
    obtain ⟨j, M, t, m, p, sz, rfl, hj, hB⟩ := hrel
    by_cases hjN : j < N
    · have hO := hops.touch hB.tc
      have x0 := hO.c0 j hjN
      have x1 := hO.c1 j hjN
      have x2 := hO.c2 j hjN
      have x3 := hO.c3 j hjN
      have i1 : (j : Int) < (N : Int) := by omega
      have i2 : (j : Int) ≤ 1024 := by omega
      have hvj := hO.v j hjN
      have hbj := hO.b j hjN
      have hkj := hO.k j hjN
      have hnj := hO.n j hjN
      obtain ⟨vp, vn, vc, vxs, hve, hvl, hvm, hvb⟩ := hvj
      rw [hve] at x3 hbj
      have hVal : Val wr (.slice vp vn vc) := ⟨vp, vn, vc, vxs, rfl, hvl, hvm, hvb⟩
      have ta : Touch (fun _ => False) wr (wr.alloc (.cells #[.int .u8 (ky j), .string (nm j), .bool (dl j), .slice vp vn vc] 45)) := (Touch.refl (fun _ => False) wr).alloc _
      generalize hkk : nameOf (ky j) (nm j) = k at *
      have hks' : k.size ≤ 140737488355328 := by rw [← hkk]; exact nameOf_small hnj
      have hks : k.size ≤ maxLen := Nat.le_trans hks' (by unfold maxLen; omega)
      have CN := fun W => cname_any (ky j) (nm j) (dl j) (.slice vp vn vc) W hkj
      have CL := fun W hv => clone_any (.slice vp vn vc) W hv hbj
      rw [hkk] at CN
      clear hve hkk hvl hvb hbj hkj hnj
      have bx0 := vec_cells4 wr (.int .u8 (ky j)) (.string (nm j)) (.bool (dl j)) (.slice vp vn vc) 45
      generalize ky j = kyj at *
      generalize nm j = nmj at *
      generalize dl j = dlj at *
      go_upto_region 9 with (first | (go_at_call 14; refine (CN _).mono ?_; rintro e w2 ⟨rfl, t2⟩; have bx1 := bx0.touch t2 id; have y1 := bx1.cell (j := 3) (v := .slice vp vn vc) rfl) | (go_at_call 15; refine (CL _ (hVal.touch (ta.trans t2 (fun _ _ e => e)) (fun _ _ => id))).mono ?_; rintro e w3 ⟨v, rfl, hv3, hvb3, t3⟩; have bx2 := bx1.touch t3 id; have y2 := bx2.cell (j := 2) (v := .bool dlj) rfl))
      have ts : Touch (fun _ => False) wr w3 := (ta.trans t2 (fun _ _ e => e)).trans t3 (fun _ _ e => e)
      have hB3 := hB.touch ts
      have hfr : Fresh w.heap.size t m u5 w3 (k, v) := ⟨hv3, hks', fun b hb => by
        have e1 := hvb3 b hb
        have e2 : wr.heap.size ≤ w2.heap.size := (ta.trans t2 (fun _ _ e => e)).size
        exact ⟨fun e => by have := hB.st.lt b e; omega, fun e => by have := hB.ma.lt b e; omega, e1.2⟩⟩
      have hopS : ¬ Foot w.heap.size t m wr.heap.size := fun e => by have := hB.st.lt _ e; omega
      have hopM : u5.ownBlock ≠ some wr.heap.size := fun e => by have := hB.ma.lt _ e; omega
      obtain ⟨vp3, vn3, vc3, hvs, _⟩ := hv3.sliceV
      subst hvs
      obtain ⟨M', hp, hnd', hlen', hmem', hcase⟩ := plan_step M k (.slice vp3 vn3 vc3) dlj hB.nd
      have SET := sset_any w.heap.size t m p sz M M' k (.slice vp3 vn3 vc3) dlj w3 hB3.st hks hv3.sliceV (by have := hB.len; omega) (fun u hu => by
        obtain ⟨X, Y, rfl, _⟩ := split_look hu
        exact (hB3.vals (k, u) (by simp)).val.sliceV) hp
      clear CN CL x0 x1 x2 x3 bx0 y1 bx1 ta t2 t3 hv3 hvb3 hVal hp hO
      go_upto_block 2 with (go_at_call 16; refine SET.mono ?_; rintro e w4 ⟨rfl, t', m', p', sz', nx⟩)
      have ma4 := hB3.ma.touch nx.tc (fun b hb => (hB3.mf b hb).1)
      have y4 := (bx2.touch nx.tc hopS).cell (j := 2) (v := .bool dlj) rfl
      have hlM : M.length ≤ 1024 := by have := hB.len; omega
      have hcs' : Hid ((look M k = none ∧ M' = if dlj then M else M ++ [(k, .slice vp3 vn3 vc3)]) ∨ ∃ X u Y, M = X ++ (k, u) :: Y ∧ k ∉ X.map (·.1) ∧ M' = if dlj then X ++ Y else X ++ (k, .slice vp3 vn3 vc3) :: Y) := hcase
      clear SET y2 hcase
      go_cut [10, 11] from 36 to 49 (fun idx _ wx => wx = w4 ∧ ((idx = .int .i64 (-1) ∧ look M k = none) ∨ ∃ X u Y, M = X ++ (k, u) :: Y ∧ k ∉ X.map (·.1) ∧ idx = .int .i64 (X.length : Int)))
      case first =>
        rcases ma4 with ⟨rfl, rfl⟩ | ⟨g, cap, rfl, hvec, hle, hcm⟩
        · go_wp2_with fail
          go_loopw [10, 11] (fun idx jj wx => idx = .int .i64 (-1) ∧ jj = .int .i64 0 ∧ w4 = wx) (fun _ _ _ => 0)
          case atStart => exact ⟨rfl, rfl, rfl⟩
          case round =>
            obtain ⟨rfl, rfl, rfl⟩ := hrel
            go_wp2_with fail
            go_meet
            exact ⟨rfl, .inl ⟨rfl, rfl⟩⟩
        · go_wp2_with fail
          go_loopw [10, 11] (fun idx jj wx => ∃ X Y, M = X ++ Y ∧ k ∉ X.map (·.1) ∧ idx = .int .i64 (-1) ∧ jj = .int .i64 (X.length : Int) ∧ w4 = wx) (fun _ jj _ => M.length - (match jj with | .int _ z => z.toNat | _ => 0))
          case atStart => exact ⟨[], M, rfl, by simp, rfl, rfl, rfl⟩
          case round =>
            obtain ⟨X, Y, hXY, hX, rfl, rfl, rfl⟩ := hrel
            cases Y with
            | nil =>
              have e1 : ¬ (X.length : Int) < (M.length : Int) := by rw [hXY]; simp
              have hno : Hid (look M k = none) := look_none.2 (by rw [hXY]; simpa using hX)
              clear hXY
              go_wp2_with fail
              go_meet
              exact ⟨rfl, .inl ⟨rfl, hno.out⟩⟩
            | cons q Y =>
              obtain ⟨k', u'⟩ := q
              have e1 : (X.length : Int) < (M.length : Int) := by rw [hXY]; simp; omega
              have e2 : (X.length : Int) ≤ 1024 := by omega
              have ck : w4.cell? ⟨g, X.length * 2, none⟩ = some (.string k') := hvec.cell (by rw [hXY]; exact cellsOf_name)
              have hXY' : Hid (M = X ++ (k', u') :: Y) := hXY
              clear hXY
              by_cases e : k' = k
              · subst e
                go_wp2_with fail
                go_meet
                exact ⟨rfl, .inr ⟨X, u', Y, hXY'.out, hX, rfl⟩⟩
              · have e' : (k'.toList == k.toList) = false := by rw [beq_key]; simp [e]
                go_wp2_with fail
                go_roundw
                case rel => exact ⟨X ++ [(k', u')], Y, by rw [hXY'.out]; simp, by simp; exact ⟨by simpa using hX, fun h => e h.symm⟩, rfl, by simp, by trivial⟩
                case measure => simp; omega
      case rest =>
        obtain ⟨rfl, hidx⟩ := hcut
        have fin := fun w5 model' up hma hmo => hB3.next (w5 := w5) (model' := model') nx up hma hmo hnd' (by have := hB.len; omega) (fun q hq => (hmem' q hq).imp id (fun e => by rw [e]; exact hfr))
        clear nx hmem' hfr hB3 hnd' hlen'
        rcases hidx with ⟨rfl, hno⟩ | ⟨X, u, Y, hXY, hX, rfl⟩
        · have hM' : M' = if dlj then M else M ++ [(k, .slice vp3 vn3 vc3)] := by
            rcases hcs'.out with ⟨_, e⟩ | ⟨X, u, Y, rfl, hX, _⟩
            · exact e
            · rw [look_split hX] at hno; cases hno
          cases dlj with
          | true =>
            simp only [if_true] at hM'
            have f2 := fin wc u5 (Touch.refl _ wc) (by rw [hM']; exact ma4) (.inl rfl)
            clear fin hM' ma4 hno
            go_wp2_with fail
            go_roundw
            case rel => exact ⟨j + 1, M', t', m', p', sz', by simp, by omega, f2⟩
            case measure => simp; omega
          | false =>
            simp only [Bool.false_eq_true, if_false] at hM'
            have ta : Touch (fun b => u5.ownBlock = some b) wc (wc.alloc (.cells #[.string k, .slice vp3 vn3 vc3] 35)) := (Touch.refl _ wc).alloc _
            obtain ⟨i0, hi0, hz⟩ := Option.map_eq_some_iff.1 info35
            simp only [Prod.mk.injEq] at hz
            obtain ⟨hz0, hz1, hz2⟩ := hz
            have hown := (ma4.touch ((Touch.refl (fun _ => False) wc).alloc (.cells #[.string k, .slice vp3 vn3 vc3] 35)) (fun _ _ => id)).own
            have hsrc : ∀ t x, ([.string k, .slice vp3 vn3 vc3] : List Value)[t]? = some x → (wc.alloc (.cells #[.string k, .slice vp3 vn3 vc3] 35)).cell? ((⟨wc.heap.size, 0, none⟩ : Addr).add t) = some x := fun t x hx => by
              rw [Addr.add_lit, Nat.zero_add]
              exact (vec_two wc (.string k) (.slice vp3 vn3 vc3) 35).cell hx
            have h1c : ∀ x ∈ ([.string k, .slice vp3 vn3 vc3] : List Value), x.oneCell' = true := fun x hx => by
              simp at hx
              rcases hx with rfl | rfl <;> rfl
            have f2 := fun w5 md (hr : World.ownsRow w5 0 35 2 md (M.length + 1) (cellsOf M ++ [.string k, .slice vp3 vn3 vc3])) (hg : (wc.alloc (.cells #[.string k, .slice vp3 vn3 vc3] 35)).grownBy w5 u5.ownBlock) (ho5 : md.ownBlock = u5.ownBlock ∨ md.ownBlock = some (wc.alloc (.cells #[.string k, .slice vp3 vn3 vc3] 35)).heap.size) =>
              fin w5 md (ta.trans ⟨hg.os, hg.tape, hg.output, hg.size, fun b hb hne => hg.block b hb (fun e => hne e.symm)⟩ (fun _ _ e => e)) (by rw [hM']; refine MA.of_own ?_; rw [cellsOf_append, List.length_append]; exact hr) (ho5.imp id (fun e => ⟨_, e, by simp⟩))
            have m1 : M.length + 1 ≤ maxLen := by unfold maxLen; omega
            have m2 : (M.length + 1) * 40 ≤ 140737488355328 := by omega
            clear fin hM' ma4 hno ta
            go_wp2_with (first | (at_builtin; refine wpList_append_own_at _ rfl _ _ 29 rfl 0 35 i0 (.agg #[.string ⟨#[]⟩, .slice none 0 0]) 2 40 Yba.underlying29 hi0 hz0 hz1 hz2 rfl (by decide) _ _ _ rfl hown ⟨wc.heap.size, 0, none⟩ 1 1 [.string k, .slice vp3 vn3 vc3] rfl rfl hsrc h1c m1 m2 (Nat.zero_le _) ?_; intro md w5 hr5 hg5 _ ho5) | go_in)
            go_roundw
            case rel => exact ⟨j + 1, M', t', m', p', sz', by simp, by omega, f2 _ _ hr5 hg5 ho5⟩
            case measure => simp; omega
        · have hM' : M' = if dlj then X ++ Y else X ++ (k, .slice vp3 vn3 vc3) :: Y := by
            rcases hcs'.out with ⟨e, _⟩ | ⟨X', u', Y', e1, hX', e2⟩
            · rw [hXY, look_split hX] at e; cases e
            · obtain ⟨e3, e4⟩ := split_unique (hXY.symm.trans e1) hX hX'
              rw [e2, e3, e4]
          rcases ma4 with ⟨_, rfl⟩ | ⟨g, cap, rfl, hvec, hle, hcm⟩
          · simp at hXY
          have hl1 : M.length = X.length + 1 + Y.length := by rw [hXY]; simp; omega
          have e1 : (X.length : Int) < (M.length : Int) := by omega
          have e2 : (X.length : Int) ≤ 1024 := by omega
          have e0 : (0 : Int) ≤ (X.length : Int) := by omega
          cases dlj with
          | false =>
            simp only [Bool.false_eq_true, if_false] at hM'
            have ck : wc.cell? ⟨g, X.length * 2 + 1, none⟩ = some u := hvec.cell (by rw [hXY]; exact cellsOf_val)
            have cf := hvec.frozen (X.length * 2 + 1)
            have hv5 : Vec (wc.setCell ⟨g, X.length * 2 + 1, none⟩ (.slice vp3 vn3 vc3)) g 35 (cap * 2) (cellsOf M') := by
              rw [hXY, cellsOf_append, cellsOf_cons, show cellsOf X ++ .string k :: u :: cellsOf Y = (cellsOf X ++ [.string k]) ++ u :: cellsOf Y by simp] at hvec
              have e := hvec.put (.slice vp3 vn3 vc3)
              rw [show (cellsOf X ++ [Value.string k]).length = X.length * 2 + 1 by simp [cellsOf_len]] at e
              rw [hM', cellsOf_append, cellsOf_cons]
              simpa using e
            have hl2 : M'.length = M.length := by rw [hM', hXY]; simp
            have f2 := fin (wc.setCell ⟨g, X.length * 2 + 1, none⟩ (.slice vp3 vn3 vc3)) (.slice (some ⟨g, 0, none⟩) M.length cap) ((Touch.refl _ wc).setCell (fun _ => rfl)) (.inr ⟨g, cap, by rw [hl2], hv5, by omega, hcm⟩) (.inl rfl)
            clear fin hM' hvec hv5 hl2 hl1 hXY
            go_wp2_with fail
            go_roundw
            case rel => exact ⟨j + 1, M', t', m', p', sz', by simp, by omega, f2⟩
            case measure => simp; omega
          | true =>
            simp only [if_true] at hM'
            obtain ⟨i0, hi0, hz⟩ := Option.map_eq_some_iff.1 info35
            simp only [Prod.mk.injEq] at hz
            obtain ⟨_, hz1, _⟩ := hz
            obtain ⟨news, hnews⟩ : ∃ news, news = cellsOf Y := ⟨_, rfl⟩
            have hnl : news.length = (M.length - (X.length + 1)) * 2 := by rw [hnews, cellsOf_len]; omega
            have hcells : ∀ t x, news[t]? = some x → wc.cell? ⟨g, (X.length + 1) * 2 + t, none⟩ = some x := fun t x hx => hvec.cell (by
              rw [hXY, cellsOf_append, cellsOf_cons, List.getElem?_append_right (by rw [cellsOf_len]; omega), cellsOf_len, show (X.length + 1) * 2 + t - X.length * 2 = t + 2 by omega, List.getElem?_cons_succ, List.getElem?_cons_succ, ← hnews]
              exact hx)
            obtain ⟨A, hA, hsrc⟩ : ∃ A : Addr, (if cap = X.length + 1 then some (⟨g, 0, none⟩ : Addr) else some ⟨g, (X.length + 1) * 2, none⟩) = some A ∧ Hid (∀ t x, news[t]? = some x → wc.drew.cell? (A.add t) = some x) := by
              by_cases h : cap = X.length + 1
              · refine ⟨⟨g, 0, none⟩, by simp [h], fun t x hx => ?_⟩
                have h0 : news.length = 0 := by rw [hnl]; omega
                rw [List.length_eq_zero_iff.1 h0] at hx
                simp at hx
              · refine ⟨⟨g, (X.length + 1) * 2, none⟩, by simp [h], fun t x hx => ?_⟩
                rw [Addr.add_lit]
                exact hcells t x hx
            have s1 : Hid (news.length = (M.length - (X.length + 1)) * 2) := hnl
            have s2 : Hid (∀ x ∈ news, x.oneCell' = true) := fun x hx => by
              rw [hnews] at hx
              obtain ⟨q, hq, hx⟩ := List.mem_flatMap.1 hx
              simp at hx
              rcases hx with rfl | rfl
              · rfl
              · obtain ⟨a', n', c', e', _⟩ := (hB.vals q (by rw [hXY]; simp [hq])).val.sliceV
                rw [e']; rfl
            have s3 : Hid (∀ t, t < news.length → (wc.drew.cell? ⟨g, 0 + X.length * 2 + t, none⟩).isSome = true ∧ wc.drew.frozen? ⟨g, 0 + X.length * 2 + t, none⟩ = false) := fun t ht => by
              rw [hnl] at ht
              exact ⟨hvec.some (by omega), hvec.frozen _⟩
            obtain ⟨W1, hW1⟩ : ∃ W1, W1 = wc.drew.setCells g (0 + X.length * 2) news := ⟨_, rfl⟩
            have T1 : Touch (· = g) wc W1 := by rw [hW1]; exact ((Touch.refl (· = g) wc).drew).setCells (fun _ => rfl) _ _
            have hl2 : M'.length = M.length - 1 := by rw [hM']; simp; omega
            have hv5 : Vec W1 g 35 (cap * 2) (cellsOf M') := by
              have hvd : Vec wc.drew g 35 (cap * 2) (cellsOf X ++ (cellsOf ((k, u) :: Y))) := by
                rw [← cellsOf_append, ← hXY]
                exact hvec.touch ((Touch.refl (fun _ => False) wc).drew) id
              obtain ⟨f, hr, hlf, hf⟩ := hvd
              have r1 := row_setCells hr news (0 + X.length * 2)
              rw [← hW1] at r1
              refine ⟨_, r1, by rw [cellsOf_len]; omega, fun t x hx => ?_⟩
              rw [hM', cellsOf_append] at hx
              by_cases ht : t < X.length * 2
              · rw [if_neg (by omega)]
                rw [List.getElem?_append_left (by rw [cellsOf_len]; exact ht)] at hx
                exact hf t x (by rw [List.getElem?_append_left (by rw [cellsOf_len]; exact ht)]; exact hx)
              · rw [List.getElem?_append_right (by rw [cellsOf_len]; omega), cellsOf_len, ← hnews] at hx
                have hlt := (List.getElem?_eq_some_iff.1 hx).1
                rw [if_pos (by omega), List.getD_eq_getElem?_getD, show t - (0 + X.length * 2) = t - X.length * 2 by omega, hx]
                rfl
            have f2 := fin W1 (.slice (some ⟨g, 0, none⟩) (M.length - 1) cap) (T1.mono (fun b _ e => by rw [e]; rfl)) (.inr ⟨g, cap, by rw [hl2], hv5, by omega, hcm⟩) (.inl rfl)
            have hW : Hid (W1 = wc.drew.setCells g (0 + X.length * 2) news) := hW1
            have mixed : Yba.prog.follows .mixedOrders = true := by kernel_rfl
            have b0 : IntKind.i64.wrap ((X.length : Int) + 1) = (X.length : Int) + 1 := by rw [IntKind.wrap_i64]; omega
            have b1 : (0 : Int) ≤ (X.length : Int) + 1 := by omega
            have b2 : ((X.length : Int) + 1).toNat = X.length + 1 := by omega
            have b3 : (X.length : Int) + 1 ≤ (M.length : Int) := by omega
            have b4 : X.length ≤ cap := by omega
            have b5 : X.length + 1 ≤ cap := by omega
            have b6 : (X.length : Int) ≤ (cap : Int) := by omega
            have b7 : X.length + 1 ≤ M.length := by omega
            have b8 : X.length + (M.length - (X.length + 1)) ≤ cap := by omega
            have b9 : X.length + (M.length - (X.length + 1)) = M.length - 1 := by omega
            clear fin hM' hvec hv5 hl2 hl1 hXY hW1 hnews hnl hcells T1
            go_upto_region 18 with fail
            go_region_law_o (refine step_append_room rfl (.tmp 56) (.tmp 60) 29 rfl 35 i0 2 Yba.underlying29 hi0 hz1 g 0 X.length cap (by simp [Act.eval, Act.put]) A (M.length - (X.length + 1)) (cap - (X.length + 1)) news (by simp [Act.eval, Act.put]) s1.out hsrc.out s2.out b8 s3.out ?_; rw [← hW.out])
            go_wp2_with fail
            go_roundw
            case rel => exact ⟨j + 1, M', t', m', p', sz', by simp, by omega, f2⟩
            case measure => simp; omega
    · have i1 : ¬ (j : Int) < (N : Int) := by omega
      have ejN : j = N := by omega
      subst ejN
      go_wp2_with fail
      go_ret2
      exact ⟨_, rfl, M, t, m, p, sz, hB⟩
end Go.Proofs.Ybulkbhty.Tree
