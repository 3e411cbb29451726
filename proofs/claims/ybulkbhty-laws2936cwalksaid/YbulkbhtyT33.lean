import Derived.Test.YbulkbhtyT31
import Derived.Laws.MakeOwn
namespace Go.Proofs.Ybulkbhty.Tree
open Go.RowKit Go.WideShapes Go.Lib Go.Maps

/-! ### The next name in byte order -/
theorem cmp_snoc : ∀ x y : List UInt8, compareBytes x (y ++ [0]) < 0 ↔ compareBytes x y ≤ 0
  | [], [] => by simp [compareBytes]
  | [], b :: y => by simp [compareBytes]
  | a :: x, [] => by
    have h : ¬ a < 0 := by simp
    cases x with
    | nil => by_cases h2 : (0 : UInt8) < a <;> simp [compareBytes, h, h2]
    | cons c x => by_cases h2 : (0 : UInt8) < a <;> simp [compareBytes, h, h2]
  | a :: x, b :: y => by
    simp only [List.cons_append, compareBytes]
    by_cases h1 : a < b
    · simp [h1]
    · by_cases h2 : b < a
      · simp [h1, h2]
      · simp only [h1, h2, if_false]
        exact cmp_snoc x y
def nxt (y : Key) : Key := y ++ ⟨#[0]⟩
theorem nxt_list (y : Key) : (nxt y).data.toList = y.data.toList ++ [0] := by
  simp [nxt]
theorem lt_nxt {x y : Key} : KLt x (nxt y) ↔ (KLt x y ∨ x = y) := by
  unfold KLt kcmp
  rw [nxt_list, cmp_snoc]
  constructor
  · intro h
    by_cases e : compareBytes x.data.toList y.data.toList = 0
    · exact .inr (kcmp_zero e)
    · exact .inl (by omega)
  · rintro (h | rfl)
    · omega
    · have := kcmp_self x; unfold kcmp at this; omega
theorem not_lt_empty (x : Key) : ¬ KLt x ⟨#[]⟩ := by
  unfold KLt kcmp
  cases x.data.toList with
  | nil => simp [compareBytes]
  | cons a l => simp [compareBytes]

theorem rising_eq : ∀ {L1 L2 : List Key}, Rising L1 → Rising L2 → (∀ x, x ∈ L1 ↔ x ∈ L2) → L1 = L2
  | [], [], _, _, _ => rfl
  | [], b :: s, _, _, h => by have := (h b).2 (by simp); simp at this
  | a :: r, [], _, _, h => by have := (h a).1 (by simp); simp at this
  | a :: r, b :: s, h1, h2, h => by
    obtain ⟨a1, a2⟩ := List.pairwise_cons.1 h1
    obtain ⟨b1, b2⟩ := List.pairwise_cons.1 h2
    have hab : a = b := by
      rcases List.mem_cons.1 ((h a).1 (by simp)) with e | ha
      · exact e
      · rcases List.mem_cons.1 ((h b).2 (by simp)) with e | hb
        · exact e.symm
        · exact absurd (a1 b hb) (b1 a ha).asymm
    subst hab
    refine congrArg (a :: ·) (rising_eq a2 b2 fun x => ?_)
    have hx := h x
    simp only [List.mem_cons] at hx
    constructor
    · intro hr
      rcases hx.1 (.inr hr) with e | e
      · exact absurd (a1 x hr) (by rw [e]; exact KLt.irrefl a)
      · exact e
    · intro hs
      rcases hx.2 (.inr hs) with e | e
      · exact absurd (b1 x hs) (by rw [e]; exact KLt.irrefl a)
      · exact e

/-! ### Two items change places -/
theorem Vec.swap {w : World} {b t cap : Nat} {X Y : List Value} {a0 a1 c0 c1 : Value} (h : Vec w b t cap (X ++ a0 :: a1 :: c0 :: c1 :: Y)) :
    Vec ((((w.setCell ⟨b, X.length + 2, none⟩ a0).setCell ⟨b, X.length + 3, none⟩ a1).setCell ⟨b, X.length, none⟩ c0).setCell ⟨b, X.length + 1, none⟩ c1) b t cap (X ++ c0 :: c1 :: a0 :: a1 :: Y) := by
  have h1 := Vec.put (X := X ++ [a0, a1]) (Y := c1 :: Y) (y := c0) (by simpa using h) a0
  have h2 := Vec.put (X := X ++ [a0, a1, a0]) (Y := Y) (y := c1) (by simpa using h1) a1
  have h3 := Vec.put (X := X) (Y := a1 :: a0 :: a1 :: Y) (y := a0) (by simpa using h2) c0
  have h4 := Vec.put (X := X ++ [c0]) (Y := a0 :: a1 :: Y) (y := a1) (by simpa using h3) c1
  simpa using h4

theorem make29 (w : World) (c : Nat) (hc : c ≤ 1024) : ∃ w', (Instr.makeSlice 29 (.int .i64 0) (.int .i64 (c : Int))).run Yba.prog w = .ok (.slice (some ⟨w.heap.size, 0, none⟩) 0 c) w' ∧ MA w' (.slice (some ⟨w.heap.size, 0, none⟩) 0 c) [] ∧ Touch (fun _ => False) w w' := by
  obtain ⟨i, hi, hz⟩ := Option.map_eq_some_iff.1 info35
  simp only [Prod.mk.injEq] at hz
  obtain ⟨hz0, hz1, hz2⟩ := hz
  obtain ⟨w', h1, h2, h3⟩ := run_makeSlice_owned (P := Yba.prog) (w := w) 0 29 35 i _ 2 Yba.underlying29 hi hz0 hz1 .i64 .i64 c (by omega) (by rw [hz2]; omega) (by unfold maxLen; omega) (Nat.zero_le _)
  exact ⟨w', h1, MA.of_own h2, ⟨h3.os, h3.tape, h3.output, h3.size, fun k hk _ => h3.block k hk (by simp)⟩⟩

set_option maxHeartbeats 4000000 in
set_option maxRecDepth 100000 in
theorem walk_law (ao : Option Addr) (N c : Nat) (w : World) (hBU : N ≤ 1024 → Calls Yba.prog 8 #[.slice ao N c] w fun e w' => ∃ model M t m p sz, e = .returned (.tuple #[.pointer (some ⟨w.heap.size, 0, none⟩), model]) ∧ BI w w.heap.size w' model M t m p sz N) :
    Calls Yba.prog 6 #[.slice ao N c] w fun e w' => e = .returned (.bool true) ∧ Touch (fun _ => False) w w' := by
  go_enter Yba.func6, Yba.ntmps6
  by_cases hN : 1024 < N
  · have i1 : (1024 : Int) < (N : Int) := by omega
    go_wp2_with fail
    go_ret
    exact ⟨rfl, Touch.refl _ w⟩
  · have i1 : ¬ (1024 : Int) < (N : Int) := by omega
    have BU := hBU (by omega)
    go_upto_region 4 with (go_at_call 8; refine BU.mono ?_; rintro e w1 ⟨model, M, t, m, p, sz, rfl, hB⟩)
    have hlM : M.length ≤ 1024 := by have := hB.len; omega
    obtain ⟨w2, hmk, hma2, t2⟩ := make29 w1 M.length hlM
    have hlen : ∀ ty, (Builtin.len_ #[29] ty #[model]).run Yba.prog w1 = .ok (.int .i64 (M.length : Int)) w1 := fun ty => by
      rcases hB.ma with ⟨rfl, rfl⟩ | ⟨g, cap, rfl, _⟩
      · simp [Builtin.len_, run_underlying Yba.underlying29, goInt, Result.andThen]
      · simp [Builtin.len_, run_underlying Yba.underlying29, goInt, Result.andThen]
    clear BU hBU
    go_upto_block 0 with fail
    have hB2 := hB.touch t2
    have hz1 : w1.heap.size < w2.heap.size := by have := hma2.lt _ rfl; exact this
    have hz0 : w.heap.size ≤ w1.heap.size := hB.tc.size
    clear hmk hlen hN
    go_cut [5, 6, 7, 8] from 25 to 75 (fun so _ _ _ wx => ∃ L, MA wx so L ∧ Rising (L.map (·.1)) ∧ (∀ q, q ∈ L ↔ q ∈ M) ∧ L.length = M.length ∧ Touch (fun _ => False) w1 wx)
    case first =>
      go_wp2_with fail
      go_loopw [5, 6, 7, 8] (fun so jj _ _ wx => ∃ X Y L, M = X ++ Y ∧ jj = .int .i64 (X.length : Int) ∧ MA wx so L ∧ Rising (L.map (·.1)) ∧ (∀ q, q ∈ L ↔ q ∈ X) ∧ L.length = X.length ∧ Touch (fun _ => False) w1 wx ∧ (∀ b, so.ownBlock = some b → w1.heap.size ≤ b)) (fun _ jj _ _ _ => M.length - (match jj with | .int _ z => z.toNat | _ => 0))
      case atStart => exact ⟨[], M, [], rfl, rfl, hma2, List.Pairwise.nil, fun q => Iff.rfl, rfl, t2, fun b hb => by simp [Value.ownBlock] at hb; omega⟩
      case round =>
        obtain ⟨X, Y, L, hXY, rfl, hma, hrise, hmem, hll, htc, hob⟩ := hrel
        have mam := hB.ma.touch htc (fun _ _ => id)
        cases Y with
        | nil =>
          have e1 : ¬ (X.length : Int) < (M.length : Int) := by rw [hXY]; simp
          have hXM : X = M := by rw [hXY]; simp
          have hfin : ∃ L, MA wr u5 L ∧ Rising (L.map (·.1)) ∧ (∀ q, q ∈ L ↔ q ∈ M) ∧ L.length = M.length ∧ Touch (fun _ => False) w1 wr := ⟨L, hma, hrise, by rw [← hXM]; exact hmem, by rw [← hXM]; exact hll, htc⟩
          clear hXY hXM hma hmem hll
          rcases mam with ⟨rfl, rfl⟩ | ⟨g0, cap0, rfl, hmv, hle, hcm⟩
          · go_wp2_with fail
            go_meet
            exact hfin
          · go_wp2_with fail
            go_meet
            exact hfin
        | cons q Y =>
          obtain ⟨k, v⟩ := q
          rcases mam with ⟨_, rfl⟩ | ⟨g0, cap0, rfl, hmv, hle0, hcm0⟩
          · simp at hXY
          have e1 : (X.length : Int) < (M.length : Int) := by rw [hXY]; simp; omega
          have e2 : (X.length : Int) ≤ 1024 := by omega
          have e3 : M.length - (X.length + 1) < M.length - X.length := by rw [hXY]; simp; omega
          have hlX : X.length ≤ 1024 := by omega
          obtain ⟨vp, vn, vc, hvs, _⟩ := (hB.vals (k, v) (by rw [hXY]; simp)).val.sliceV
          simp only at hvs
          subst hvs
          have ck : wr.cell? ⟨g0, X.length * 2, none⟩ = some (.string k) := hmv.cell (by rw [hXY]; exact cellsOf_name)
          have cv : wr.cell? ⟨g0, X.length * 2 + 1, none⟩ = some (.slice vp vn vc) := hmv.cell (by rw [hXY]; exact cellsOf_val)
          have hkX : k ∉ L.map (·.1) := fun hk => by
            obtain ⟨q, hq, hqk⟩ := List.mem_map.1 hk
            have hnd := hB.nd
            rw [hXY, List.map_append, List.map_cons, List.nodup_append] at hnd
            exact hnd.2.2 k (List.mem_map.2 ⟨q, (hmem q).1 hq, hqk⟩) k (by simp) rfl
          have hvL : ∀ q ∈ L, SliceV q.2 := fun q hq => (hB.vals q (by rw [hXY]; simp [(hmem q).1 hq])).val.sliceV
          have hXY' : Hid (M = X ++ [(k, .slice vp vn vc)] ++ Y) := by show M = _; rw [hXY]; simp
          obtain ⟨i0, hi0, hz⟩ := Option.map_eq_some_iff.1 info35
          simp only [Prod.mk.injEq] at hz
          obtain ⟨hzz0, hzz1, hzz2⟩ := hz
          have hown := (hma.touch ((Touch.refl (fun _ => False) wr).alloc (.cells #[.string k, .slice vp vn vc] 35)) (fun _ _ => id)).own
          have hsrc : ∀ t x, ([.string k, .slice vp vn vc] : List Value)[t]? = some x → (wr.alloc (.cells #[.string k, .slice vp vn vc] 35)).cell? ((⟨wr.heap.size, 0, none⟩ : Addr).add t) = some x := fun t x hx => by
            rw [Addr.add_lit, Nat.zero_add]
            exact (vec_two wr (.string k) (.slice vp vn vc) 35).cell hx
          have h1c : ∀ x ∈ ([.string k, .slice vp vn vc] : List Value), x.oneCell' = true := fun x hx => by
            simp at hx
            rcases hx with rfl | rfl <;> rfl
          have m1 : L.length + 1 ≤ maxLen := by unfold maxLen; omega
          have m2 : (L.length + 1) * 40 ≤ 140737488355328 := by omega
          have hz2 : w1.heap.size ≤ wr.heap.size := htc.size
          have post : ∀ md w5, World.ownsRow w5 0 35 2 md (L.length + 1) (cellsOf L ++ [.string k, .slice vp vn vc]) → (wr.alloc (.cells #[.string k, .slice vp vn vc] 35)).grownBy w5 u5.ownBlock → (md.ownBlock = u5.ownBlock ∨ md.ownBlock = some (wr.alloc (.cells #[.string k, .slice vp vn vc] 35)).heap.size) →
              ∃ g cap, md = .slice (some ⟨g, 0, none⟩) (L.length + 1) cap ∧ Vec w5 g 35 (cap * 2) (cellsOf (L ++ [(k, .slice vp vn vc)])) ∧ L.length + 1 ≤ cap ∧ cap ≤ maxLen ∧ w1.heap.size ≤ g ∧ Touch (fun _ => False) w1 w5 := fun md w5 hr hg ho => by
            have hma5 : MA w5 md (L ++ [(k, .slice vp vn vc)]) := MA.of_own (by rw [cellsOf_append, List.length_append]; exact hr)
            have ht5 : Touch (fun _ => False) w1 w5 := by
              refine (htc.alloc (.cells #[.string k, .slice vp vn vc] 35)).trans (G := fun b => u5.ownBlock = some b) ⟨hg.os, hg.tape, hg.output, hg.size, fun b hb hne => hg.block b hb (fun e => hne e.symm)⟩ (fun x hx e => ?_)
              have := hob x e
              omega
            rcases hma5 with ⟨_, e⟩ | ⟨g, cap, rfl, hv5, hle5, hcm5⟩
            · simp at e
            · refine ⟨g, cap, by simp, hv5, by simpa using hle5, hcm5, ?_, ht5⟩
              rcases ho with e | e
              · exact hob g e.symm
              · simp [Value.ownBlock] at e
                omega
          clear hma hXY
          go_upto_region 10 with (first | (at_builtin; refine wpList_append_own_at _ rfl _ _ 29 rfl 0 35 i0 (.agg #[.string ⟨#[]⟩, .slice none 0 0]) 2 40 Yba.underlying29 hi0 hzz0 hzz1 hzz2 rfl (by decide) _ _ _ rfl hown ⟨wr.heap.size, 0, none⟩ 1 1 [.string k, .slice vp vn vc] rfl rfl hsrc h1c m1 m2 (Nat.zero_le _) ?_; intro md w5 hr5 hg5 _ ho5; obtain ⟨g, cap, hmd, hv5, hle5, hcm5, hg1, ht5⟩ := post md w5 hr5 hg5 ho5; clear hr5 hg5 ho5; subst hmd) | go_in)
          clear hown hsrc h1c post ck cv m1 m2 hi0 hzz0 hzz1 hzz2 hob htc hmv
          go_loopw [7, 8] (fun kk _ wx => ∃ A C, kk = .int .i64 (A.length : Int) ∧ Vec wx g 35 (cap * 2) (cellsOf (A ++ (k, .slice vp vn vc) :: C)) ∧ Rising ((A ++ C).map (·.1)) ∧ (∀ x ∈ C, KLt k x.1) ∧ (∀ x, x ∈ A ++ C ↔ x ∈ L) ∧ (A ++ C).length = X.length ∧ Touch (fun _ => False) w1 wx) (fun kk _ _ => (match kk with | .int _ z => z.toNat | _ => 0))
          case atStart => exact ⟨L, [], by rw [hll], by simpa using hv5, by simpa using hrise, by simp, by simp, by simpa using hll, ht5⟩
          case round =>
            obtain ⟨A, C, rfl, hv, hri, hC, hAC, hACl, htc⟩ := hrel
            have fin : ∀ w', Touch (fun _ => False) wr w' → Rising ((A ++ (k, .slice vp vn vc) :: C).map (·.1)) → ∃ X' Y' L', M = X' ++ Y' ∧ (Value.int .i64 ((X.length : Int) + 1) = .int .i64 (X'.length : Int)) ∧ MA w' (.slice (some ⟨g, 0, none⟩) (X.length + 1) cap) L' ∧ Rising (L'.map (·.1)) ∧ (∀ q, q ∈ L' ↔ q ∈ X') ∧ L'.length = X'.length ∧ Touch (fun _ => False) w1 w' ∧ (∀ b, (Value.slice (some ⟨g, 0, none⟩) (X.length + 1) cap).ownBlock = some b → w1.heap.size ≤ b) := fun w' ht hr => by
              refine ⟨X ++ [(k, .slice vp vn vc)], Y, A ++ (k, .slice vp vn vc) :: C, hXY'.out, by simp, .inr ⟨g, cap, ?_, hv.touch ht id, ?_, hcm5⟩, hr, fun q => ?_, ?_, htc.trans ht (fun _ _ e => e), fun b hb => ?_⟩
              · have e : (A ++ (k, .slice vp vn vc) :: C).length = X.length + 1 := by simp at hACl ⊢; omega
                rw [e]
              · simp at hACl ⊢; omega
              · have e1 := hAC q
                have e2 := hmem q
                simp only [List.mem_append, List.mem_cons, List.not_mem_nil, or_false] at e1 ⊢
                constructor
                · rintro (h | h | h)
                  · exact .inl (e2.1 (e1.1 (.inl h)))
                  · exact .inr h
                  · exact .inl (e2.1 (e1.1 (.inr h)))
                · rintro (h | h)
                  · rcases e1.2 (e2.2 h) with h | h
                    · exact .inl h
                    · exact .inr (.inr h)
                  · exact .inr (.inl h)
              · simp at hACl ⊢; omega
              · simp [Value.ownBlock] at hb; omega
            rcases List.eq_nil_or_concat A with rfl | ⟨A', a, rfl⟩
            · have hr2 : Rising (([] ++ (k, .slice vp vn vc) :: C : List (Key × Value)).map (·.1)) := by
                simp only [List.nil_append, List.map_cons]
                exact List.pairwise_cons.2 ⟨fun y hy => by obtain ⟨q, hq, rfl⟩ := List.mem_map.1 hy; exact hC q hq, by simpa using hri⟩
              go_wp2_with fail
              go_quiet (fail)
              go_wp2_with fail
              go_roundw
              case rel => exact fin _ ((Touch.refl (fun _ => False) wr).drewN _) hr2
              case measure => simpa using e3
            · simp only [List.concat_eq_append] at *
              obtain ⟨ak, av⟩ := a
              have haL : (ak, av) ∈ L := (hAC _).1 (by simp)
              obtain ⟨avp, avn, avc, hvs, _⟩ := hvL _ haL
              simp only at hvs
              subst hvs
              have hne : k ≠ ak := fun e => hkX (List.mem_map.2 ⟨_, haL, e.symm⟩)
              have elA : ((A' ++ [(ak, Value.slice avp avn avc)]).length : Int) = (A'.length : Int) + 1 := by simp
              rw [elA]
              have hv' : Vec wr g 35 (cap * 2) (cellsOf A' ++ .string ak :: .slice avp avn avc :: .string k :: .slice vp vn vc :: cellsOf C) := by
                have e := hv
                rw [List.append_assoc, cellsOf_append] at e
                simpa [cellsOf] using e
              have c0 : wr.cell? ⟨g, A'.length * 2, none⟩ = some (.string ak) := hv'.cell (by rw [List.getElem?_append_right (by rw [cellsOf_len]; omega), cellsOf_len]; simp)
              have c1 : wr.cell? ⟨g, A'.length * 2 + 1, none⟩ = some (.slice avp avn avc) := hv'.cell (by rw [List.getElem?_append_right (by rw [cellsOf_len]; omega), cellsOf_len, show A'.length * 2 + 1 - A'.length * 2 = 1 by omega]; rfl)
              have c2 : wr.cell? ⟨g, (A'.length + 1) * 2, none⟩ = some (.string k) := hv'.cell (by rw [List.getElem?_append_right (by rw [cellsOf_len]; omega), cellsOf_len, show (A'.length + 1) * 2 - A'.length * 2 = 2 by omega]; rfl)
              have c3 : wr.cell? ⟨g, (A'.length + 1) * 2 + 1, none⟩ = some (.slice vp vn vc) := hv'.cell (by rw [List.getElem?_append_right (by rw [cellsOf_len]; omega), cellsOf_len, show (A'.length + 1) * 2 + 1 - A'.length * 2 = 3 by omega]; rfl)
              have hAl : A'.length + 1 ≤ X.length := by simp at hACl; omega
              have b1 : (0 : Int) < (A'.length : Int) + 1 := by omega
              have b2 : (0 : Int) ≤ (A'.length : Int) + 1 := by omega
              have b3 : (A'.length : Int) + 1 < ((X.length + 1 : Nat) : Int) := by omega
              have b3' : (A'.length : Int) + 1 < (X.length : Int) + 1 := by omega
              have b4 : (A'.length : Int) < ((X.length + 1 : Nat) : Int) := by omega
              have b4' : (A'.length : Int) < (X.length : Int) + 1 := by omega
              have b5 : ((A'.length : Int) + 1).toNat = A'.length + 1 := by omega
              have b6 : IntKind.i64.wrap ((A'.length : Int) + 1 - 1) = (A'.length : Int) := by rw [IntKind.wrap_i64]; omega
              have b7 : IntKind.i64.wrap (A'.length : Int) = (A'.length : Int) := by rw [IntKind.wrap_i64]; omega
              have b8 : (A'.length : Int) ≤ 1024 := by omega
              clear hv elA
              by_cases hlt : KLt k ak
              · have hb1 : Op.bytesLess k.toList ak.toList = true := by rw [bytesLess_key]; simp [hlt]
                have n1 : ¬ (A'.length + 1) * 2 = A'.length * 2 := by omega
                have n2 : ¬ (A'.length + 1) * 2 + 1 = A'.length * 2 := by omega
                have n3 : ¬ (A'.length + 1) * 2 = A'.length * 2 + 1 := by omega
                have n4 : ¬ (A'.length + 1) * 2 + 1 = A'.length * 2 + 1 := by omega
                have n5 : ¬ A'.length * 2 = (A'.length + 1) * 2 := by omega
                have n6 : ¬ A'.length * 2 = (A'.length + 1) * 2 + 1 := by omega
                have n7 : ¬ A'.length * 2 + 1 = (A'.length + 1) * 2 := by omega
                have n8 : ¬ A'.length * 2 + 1 = (A'.length + 1) * 2 + 1 := by omega
                go_wp2_with fail
                go_quiet (fail)
                have hvq := hv'.touch ((Touch.refl (fun _ => False) wr).drewN nq) id
                have tcq : Touch (fun _ => False) w1 (wr.drewN nq) := htc.drewN nq
                have g0 : (wr.drewN nq).cell? ⟨g, A'.length * 2, none⟩ = some (.string ak) := c0
                have g1 : (wr.drewN nq).cell? ⟨g, A'.length * 2 + 1, none⟩ = some (.slice avp avn avc) := c1
                have g2 : (wr.drewN nq).cell? ⟨g, (A'.length + 1) * 2, none⟩ = some (.string k) := c2
                have g3 : (wr.drewN nq).cell? ⟨g, (A'.length + 1) * 2 + 1, none⟩ = some (.slice vp vn vc) := c3
                clear c0 c1 c2 c3 hv' htc fin
                generalize wr.drewN nq = wq at *
                have f0 := hvq.frozen (A'.length * 2)
                have f1 := hvq.frozen (A'.length * 2 + 1)
                have f2 := hvq.frozen ((A'.length + 1) * 2)
                have f3 := hvq.frozen ((A'.length + 1) * 2 + 1)
                have hgl : g < wq.heap.size := hvq.lt
                have hgn : wq.heap.size ≠ g := by omega
                have hgn' : g ≠ wq.heap.size := by omega
                have hsw := Vec.swap hvq
                rw [cellsOf_len, show A'.length * 2 + 2 = (A'.length + 1) * 2 by omega, show A'.length * 2 + 3 = (A'.length + 1) * 2 + 1 by omega] at hsw
                have g1' : w1.heap.size ≤ g := hg1
                go_wp2_with fail
                go_roundw
                case rel =>
                  refine ⟨A', (ak, .slice avp avn avc) :: C, rfl, ?_, by simpa using hri, fun x hx => ?_, fun x => by simpa using hAC x, by simpa using hACl, ((((tcq.setCell (fun h => by omega)).setCell (fun h => by omega)).setCell (fun h => by omega)).setCell (fun h => by omega)).alloc _⟩
                  · have e := hsw.touch ((Touch.refl (fun _ => False) _).alloc (.cells #[.string k, .slice vp vn vc] 35)) id
                    rw [cellsOf_append]
                    simpa [cellsOf] using e
                  · rcases List.mem_cons.1 hx with rfl | hx
                    · exact hlt
                    · exact hC x hx
                case measure => simp
              · have hb1 : Op.bytesLess k.toList ak.toList = false := by rw [bytesLess_key]; simp [hlt]
                have hr2 : Rising (((A' ++ [(ak, Value.slice avp avn avc)]) ++ (k, Value.slice vp vn vc) :: C).map (fun q : Key × Value => q.1)) := by
                  rw [List.map_append] at hri ⊢
                  rw [List.map_cons]
                  refine Rising.put hri (fun x hx => ?_) (fun y hy => by obtain ⟨q, hq, rfl⟩ := List.mem_map.1 hy; exact hC q hq)
                  have hak : KLt ak k := KLt.of_not hlt hne
                  simp only [List.map_append, List.map_cons, List.map_nil, List.mem_append, List.mem_cons, List.not_mem_nil, or_false] at hx
                  rcases hx with hx | rfl
                  · have h1 := (List.pairwise_append.1 hri).1
                    rw [List.map_append] at h1
                    exact ((List.pairwise_append.1 h1).2.2 x hx ak (by simp)).trans hak
                  · exact hak
                go_wp2_with fail
                go_quiet (fail)
                go_wp2_with fail
                go_roundw
                case rel => exact fin _ ((Touch.refl (fun _ => False) wr).drewN _) hr2
                case measure => simpa using e3
    case rest =>
      obtain ⟨L, hmaL, hriL, hmL, hlL, htcL⟩ := hcut
      have hBc := hB.touch htcL
      have hflat : t.flat = L.map (·.1) := rising_eq hB.st.rise hriL fun x => by
        rw [hB.st.mem x]
        constructor
        · intro h
          cases hl : look M x with
          | none => rw [hl] at h; cases h
          | some u =>
            obtain ⟨X, Y, e, _⟩ := split_look hl
            exact List.mem_map.2 ⟨(x, u), (hmL _).2 (by rw [e]; simp), rfl⟩
        · intro h
          obtain ⟨q, hq, rfl⟩ := List.mem_map.1 h
          rw [look_mem hB.nd ((hmL q).1 hq)]
          rfl
      have hlook : ∀ q ∈ L, look M q.1 = some q.2 := fun q hq => look_mem hB.nd ((hmL q).1 hq)
      have hfr : ∀ q ∈ L, Fresh w.heap.size t m model wc q := fun q hq => hBc.vals q ((hmL q).1 hq)
      have FI := fun y => first_any w.heap.size t m p sz M y wc hBc.st hlM (fun y hy => by
        rw [hflat] at hy
        obtain ⟨q, hq, rfl⟩ := List.mem_map.1 hy
        exact Nat.le_trans (hfr q hq).key (by unfold maxLen; omega))
      have tf : Touch (fun _ => False) w wc := hBc.tc
      have hlL' : L.length ≤ 1024 := by omega
      have hsn := fun w' a n c n' c' => Lib.run_eql_slice_nil (P := Yba.prog) w' 25 5 a n c n' c' Yba.underlying25
      have cnone : ∀ X y, L = X → (∀ q ∈ X, KLt q.1 y) → firstVal M (ceilOf t.flat y) = .tuple #[.string ⟨#[]⟩, .slice none 0 0, .bool false] := fun X y e h => by
        rw [hflat, e, ceil_none (fun x hx => by obtain ⟨q, hq, rfl⟩ := List.mem_map.1 hx; exact h q hq)]
        rfl
      have csome : ∀ X q Y y, L = X ++ q :: Y → (∀ q ∈ X, KLt q.1 y) → ¬ KLt q.1 y → firstVal M (ceilOf t.flat y) = .tuple #[.string q.1, q.2, .bool true] := fun X q Y y e h hq => by
        rw [hflat, e, List.map_append, List.map_cons, ceil_append, ceil_none (fun x hx => by obtain ⟨q', hq', rfl⟩ := List.mem_map.1 hx; exact h q' hq'), ceil_cons hq]
        show firstVal M (some q.1) = _
        simp only [firstVal]
        rw [hlook q (by rw [e]; simp)]
        rfl
      have hriL' : Hid (Rising (L.map (·.1))) := hriL
      clear hB2 hma2 t2 hmL hlL hriL htcL hflat hB
      go_upto_region 17 with fail
      go_loopw [9, 10, 11, 12, 13] (fun fr kk _ _ _ wx => ∃ X Y y, fr = .string y ∧ L = X ++ Y ∧ kk = .int .i64 (X.length : Int) ∧ (∀ q ∈ X, KLt q.1 y) ∧ (∀ q ∈ Y, ¬ KLt q.1 y) ∧ wc = wx) (fun _ kk _ _ _ _ => L.length + 1 - (match kk with | .int _ z => z.toNat | _ => 0))
      case atStart => exact ⟨[], L, ⟨#[]⟩, rfl, rfl, rfl, by simp, fun q _ => not_lt_empty q.1, rfl⟩
      case round =>
        obtain ⟨X, Y, y, rfl, hXY, rfl, hX, hY, rfl⟩ := hrel
        have F1 := FI y
        cases Y with
        | nil =>
          rw [cnone X y (by rw [hXY]; simp) hX] at F1
          have eL : X.length = L.length := by rw [hXY]; simp
          clear FI cnone csome
          rcases hmaL with ⟨rfl, hL0⟩ | ⟨g, cap, rfl, hvec, hle, hcm⟩
          · have hX0 : X = [] := by rw [hL0] at hXY; simpa using hXY.symm
            subst hX0
            clear hXY eL
            go_wp2_with (go_at_call 9; refine F1.mono ?_; rintro e w9 ⟨rfl, rfl⟩)
            go_ret
            exact ⟨rfl, tf⟩
          · have hXL : X = L := by rw [hXY]; simp
            subst hXL
            clear hXY eL
            go_wp2_with (go_at_call 9; refine F1.mono ?_; rintro e w9 ⟨rfl, rfl⟩)
            go_ret
            exact ⟨rfl, tf⟩
        | cons q Y =>
          obtain ⟨k, v⟩ := q
          rw [csome X (k, v) Y y hXY hX (hY (k, v) (by simp))] at F1
          rcases hmaL with ⟨rfl, hL0⟩ | ⟨g, cap, rfl, hvec, hle, hcm⟩
          · rw [hL0] at hXY; simp at hXY
          have hF := hfr (k, v) (by rw [hXY]; simp)
          have hval := hF.val
          have hks := hF.key
          simp only at hval hks F1
          have EQ := equal_same v wc hval
          have ck : wc.cell? ⟨g, X.length * 2, none⟩ = some (.string k) := hvec.cell (by rw [hXY]; exact cellsOf_name)
          have cv : wc.cell? ⟨g, X.length * 2 + 1, none⟩ = some v := hvec.cell (by rw [hXY]; exact cellsOf_val)
          have e1 : (X.length : Int) < (L.length : Int) := by rw [hXY]; simp; omega
          have e1' : (X.length : Int) ≤ (L.length : Int) := by omega
          have e2 : ¬ (X.length : Int) = (L.length : Int) := by omega
          have e2' : ¬ X.length = L.length := by omega
          have e3 : (X.length : Int) ≤ 1024 := by omega
          have e4 : L.length + 1 - (X.length + 1) < L.length + 1 - X.length := by omega
          have hXY' : Hid (L = X ++ [(k, v)] ++ Y) := by show L = _; rw [hXY]; simp
          have hgt : ∀ q ∈ Y, KLt k q.1 := fun q hq => by
            have h := hriL'.out
            rw [hXY, List.map_append, List.map_cons] at h
            exact (List.pairwise_cons.1 (List.pairwise_append.1 h).2.1).1 q.1 (List.mem_map.2 ⟨q, hq, rfl⟩)
          have hlt : ∀ q ∈ X, KLt q.1 k := fun q hq => by
            have h := hriL'.out
            rw [hXY, List.map_append, List.map_cons] at h
            exact (List.pairwise_append.1 h).2.2 q.1 (List.mem_map.2 ⟨q, hq, rfl⟩) k (by simp)
          have z1 : ¬ (9223372036854775807 < k.size + 1) := by omega
          have z2 : k.size + 1 ≤ 9223372036854775807 := by omega
          clear FI cnone csome hXY hF hfr hvec
          go_wp2_with (first | (go_at_call 9; refine F1.mono ?_; rintro e w9 ⟨rfl, rfl⟩) | (go_at_call 10; refine EQ.mono ?_; rintro e w9 ⟨rfl, rfl⟩))
          go_roundw
          case rel =>
            refine ⟨X ++ [(k, v)], Y, nxt k, rfl, hXY'.out, by simp, fun q hq => ?_, fun q hq h => ?_, by trivial⟩
            · rcases List.mem_append.1 hq with hq | hq
              · exact lt_nxt.2 (.inl (hlt q hq))
              · simp at hq; subst hq; exact lt_nxt.2 (.inr rfl)
            · rcases lt_nxt.1 h with h | h
              · exact (hgt q hq).asymm h
              · exact (hgt q hq).ne h.symm
          case measure => simpa using e4
end Go.Proofs.Ybulkbhty.Tree
