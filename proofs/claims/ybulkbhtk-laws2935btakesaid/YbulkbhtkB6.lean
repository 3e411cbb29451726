import Derived.Test.YbulkbhtkB5
namespace Go.Proofs.Ybulkbhtk
open Go.RowKit

/-! ### The plain law: what the session holds behind the first i ticks -/
def M1 : Nat := 13830554455654793216
def loOf (mk : Nat → Int) (pub q : Nat) : Int := if 0 < q ∧ mk pub < mk (q - 1) then mk (q - 1) else mk pub
def cntU (e : Nat) (il : Nat → List Nat) (ht : Nat → Bool) : Nat → Int
  | 0 => 0
  | k + 1 => cntU e il ht k + if e ∈ il k ∧ ht k = false then 1 else 0

theorem cntU_le (e : Nat) (il : Nat → List Nat) (ht : Nat → Bool) (n : Nat) : 0 ≤ cntU e il ht n ∧ cntU e il ht n ≤ n := by
  induction n with
  | zero => simp [cntU]
  | succ n ih => simp only [cntU]; split <;> omega
theorem cntU_congr (e : Nat) (il : Nat → List Nat) (ht ht' : Nat → Bool) (n : Nat) (h : ∀ k, k < n → ht k = ht' k) : cntU e il ht n = cntU e il ht' n := by
  induction n with
  | zero => rfl
  | succ n ih => simp only [cntU]; rw [ih (fun k hk => h k (by omega)), h n (by omega)]
theorem cntU_upd (e : Nat) (il : Nat → List Nat) (ht : Nat → Bool) (n j : Nat) (hj : j < n) (hf : ht j = false) : cntU e il (upd ht j true) n = cntU e il ht n - if e ∈ il j then 1 else 0 := by
  induction n with
  | zero => omega
  | succ n ih =>
    simp only [cntU]
    by_cases hjn : j = n
    · subst hjn
      rw [cntU_congr e il (upd ht j true) ht j (fun k hk => by simp [upd, show k ≠ j by omega])]
      simp [upd, hf]
    · rw [ih (by omega)]
      simp only [upd, if_neg (show n ≠ j from fun h => hjn h.symm)]
      omega

section
variable {tm wh : Nat → Int} {pb : Nat → Nat}

theorem best_skip {k : Int} {hl : Bool} {lo hi : Int} {i : Nat} (h : wh i % 5 ≠ k ∨ hi < tm i ∨ (hl = true ∧ tm i ≤ lo)) : best tm wh pb k hl lo hi (i + 1) = best tm wh pb k hl lo hi i := by
  simp only [best]
  by_cases h1 : wh i % 5 ≠ k
  · rw [if_pos h1]
  · rw [if_neg h1, if_pos (h.resolve_left h1)]
theorem best_take {k : Int} {hl : Bool} {lo hi : Int} {i : Nat} (h1 : wh i % 5 = k) (h2 : ¬ hi < tm i) (h3 : ¬ (hl = true ∧ tm i ≤ lo)) : best tm wh pb k hl lo hi (i + 1) = if (best tm wh pb k hl lo hi i).1 = false ∨ (best tm wh pb k hl lo hi i).2.1 ≤ tm i then (true, tm i, pb i) else best tm wh pb k hl lo hi i := by
  simp only [best]
  rw [if_neg (by simpa using h1), if_neg (fun h => h.elim h2 h3)]

structure Inv (tm wh : Nat → Int) (pb : Nat → Nat) (n m : Nat) (mk : Nat → Int) (pub : Nat) (il : Nat → List Nat) (i : Nat) (s : St) : Prop where
  now : ∀ k, k < n → s.ht k = (best tm wh pb k false 0 (mk pub) i).1 ∧ s.ta k = (best tm wh pb k false 0 (mk pub) i).2.1 ∧ s.pr (2 * k + 1) = if (best tm wh pb k false 0 (mk pub) i).1 = true then (best tm wh pb k false 0 (mk pub) i).2.2 else M1
  odd : ∀ k, k ≤ n → s.pr (2 * k) = M1
  cnt : ∀ e, e < 2 → s.un e = cntU e il s.ht n
  ltr : ∀ q, q < m → ∀ k, k < n → s.ks q k = (best tm wh pb k true (loOf mk pub q) (mk q) i).1 ∧ s.kt q k = (best tm wh pb k true (loOf mk pub q) (mk q) i).2.1 ∧ s.kp q k = (best tm wh pb k true (loOf mk pub q) (mk q) i).2.2
  nil : ∀ q, q < m → (s.lt q = none ↔ ∀ k, k < n → s.ks q k = false)

variable {n m : Nat} {mk : Nat → Int} {pub : Nat} {il : Nat → List Nat} {i : Nat} {s : St}

theorem lo_ge (mk : Nat → Int) (pub q : Nat) : mk pub ≤ loOf mk pub q := by unfold loOf; split <;> omega
theorem best_zero {k : Int} {hl : Bool} {lo hi : Int} {i : Nat} (h : (best tm wh pb k hl lo hi i).1 = false) : (best tm wh pb k hl lo hi i).2.1 = 0 ∧ (best tm wh pb k hl lo hi i).2.2 = 0 := by
  induction i with
  | zero => simp [best]
  | succ i ih =>
    by_cases h1 : wh i % 5 ≠ k ∨ hi < tm i ∨ (hl = true ∧ tm i ≤ lo)
    · rw [best_skip h1] at h ⊢
      exact ih h
    · have a : wh i % 5 = k := by simpa using fun e => h1 (.inl e)
      rw [best_take a (fun e => h1 (.inr (.inl e))) (fun e => h1 (.inr (.inr e)))] at h ⊢
      split
      · rename_i h2; rw [if_pos h2] at h; simp at h
      · rename_i h2; rw [if_neg h2] at h; exact ih h

/-- The tick is of no constituent, or behind all marks: nothing turns. -/
theorem Inv.skip (h : Inv tm wh pb n m mk pub il i s) (hs : (∀ k : Nat, k < n → wh i % 5 ≠ k) ∨ (mk pub < tm i ∧ ∀ q, q < m → mk q < tm i)) : Inv tm wh pb n m mk pub il (i + 1) s := by
  have e1 : ∀ k : Nat, k < n → best tm wh pb k false 0 (mk pub) (i + 1) = best tm wh pb k false 0 (mk pub) i := fun k hk => best_skip (hs.elim (fun a => .inl (a k hk)) (fun a => .inr (.inl a.1)))
  have e2 : ∀ q, q < m → ∀ k : Nat, k < n → best tm wh pb k true (loOf mk pub q) (mk q) (i + 1) = best tm wh pb k true (loOf mk pub q) (mk q) i := fun q hq k hk => best_skip (hs.elim (fun a => .inl (a k hk)) (fun a => .inr (.inl (a.2 q hq))))
  exact ⟨fun k hk => by rw [e1 k hk]; exact h.now k hk, h.odd, h.cnt, fun q hq k hk => by rw [e2 q hq k hk]; exact h.ltr q hq k hk, h.nil⟩

theorem Inv.late (h : Inv tm wh pb n m mk pub il i s) {j : Nat} (hj : j < n) (hw : wh i % 5 = j) (ht : tm i ≤ mk pub) (hh : s.ht j = true) (hl : tm i < s.ta j) : Inv tm wh pb n m mk pub il (i + 1) s := by
  have e2 : ∀ q, q < m → ∀ k : Nat, k < n → best tm wh pb k true (loOf mk pub q) (mk q) (i + 1) = best tm wh pb k true (loOf mk pub q) (mk q) i := fun q hq k hk => best_skip (.inr (.inr ⟨rfl, Int.le_trans ht (lo_ge mk pub q)⟩))
  refine ⟨fun k hk => ?_, h.odd, h.cnt, fun q hq k hk => by rw [e2 q hq k hk]; exact h.ltr q hq k hk, h.nil⟩
  by_cases hkj : k = j
  · subst hkj
    have a := h.now k hk
    rw [best_take hw (by omega) (by simp), if_neg (by rw [← a.1, ← a.2.1, hh]; simp; omega)]
    exact a
  · rw [best_skip (.inl (by rw [hw]; omega))]
    exact h.now k hk

theorem Inv.again (h : Inv tm wh pb n m mk pub il i s) {j : Nat} (hj : j < n) (hw : wh i % 5 = j) (ht : tm i ≤ mk pub) (hh : s.ht j = true) (hl : ¬ tm i < s.ta j) : Inv tm wh pb n m mk pub il (i + 1) (s.again j (tm i) (pb i)) := by
  have e2 : ∀ q, q < m → ∀ k : Nat, k < n → best tm wh pb k true (loOf mk pub q) (mk q) (i + 1) = best tm wh pb k true (loOf mk pub q) (mk q) i := fun q hq k hk => best_skip (.inr (.inr ⟨rfl, Int.le_trans ht (lo_ge mk pub q)⟩))
  refine ⟨fun k hk => ?_, fun k hk => ?_, h.cnt, fun q hq k hk => by rw [e2 q hq k hk]; exact h.ltr q hq k hk, h.nil⟩
  · by_cases hkj : k = j
    · subst hkj
      have a := h.now k hk
      rw [best_take hw (by omega) (by simp), if_pos (.inr (by rw [← a.2.1]; omega))]
      simp [St.again, upd, hh]
    · rw [best_skip (.inl (by rw [hw]; omega))]
      have a := h.now k hk
      simp only [St.again, upd, if_neg hkj, if_neg (show 2 * k + 1 ≠ 2 * j + 1 by omega)]
      exact a
  · simp only [St.again, upd, if_neg (show 2 * k ≠ 2 * j + 1 by omega)]
    exact h.odd k hk

theorem Inv.first (h : Inv tm wh pb n m mk pub il i s) {j : Nat} (hj : j < n) (hw : wh i % 5 = j) (ht : tm i ≤ mk pub) (hh : s.ht j = false) (hil : (il j).Nodup) : Inv tm wh pb n m mk pub il (i + 1) (s.first j (tm i) (pb i) (il j)) := by
  have e2 : ∀ q, q < m → ∀ k : Nat, k < n → best tm wh pb k true (loOf mk pub q) (mk q) (i + 1) = best tm wh pb k true (loOf mk pub q) (mk q) i := fun q hq k hk => best_skip (.inr (.inr ⟨rfl, Int.le_trans ht (lo_ge mk pub q)⟩))
  refine ⟨fun k hk => ?_, fun k hk => ?_, fun e he => ?_, fun q hq k hk => by rw [e2 q hq k hk]; exact h.ltr q hq k hk, h.nil⟩
  · by_cases hkj : k = j
    · subst hkj
      have a := h.now k hk
      rw [best_take hw (by omega) (by simp), if_pos (.inl (by rw [← a.1]; exact hh))]
      simp [St.first, upd]
    · rw [best_skip (.inl (by rw [hw]; omega))]
      have a := h.now k hk
      simp only [St.first, upd, if_neg hkj, if_neg (show 2 * k + 1 ≠ 2 * j + 1 by omega)]
      exact a
  · simp only [St.first, upd, if_neg (show 2 * k ≠ 2 * j + 1 by omega)]
    exact h.odd k hk
  · simp only [St.first]
    rw [cntU_upd e il s.ht n j hj hh, ← h.cnt e he]
    simp only [decU]
    rw [hil.count]
    split <;> simp

theorem Inv.kept (h : Inv tm wh pb n m mk pub il i s) {j q g : Nat} (hj : j < n) (hw : wh i % 5 = j) (ht : mk pub < tm i) (hq : q < m) (hf : FirstAt m mk (tm i) q) (_hinc : ∀ a b, a < b → b < m → mk a < mk b) :
    Inv tm wh pb n m mk pub il (i + 1) (s.kept q j (tm i) (pb i) g) := by
  obtain ⟨_, f1, f2⟩ := hf
  have e1 : ∀ k : Nat, k < n → best tm wh pb k false 0 (mk pub) (i + 1) = best tm wh pb k false 0 (mk pub) i := fun k hk => best_skip (.inr (.inl ht))
  have e2 : ∀ q', q' < m → ∀ k : Nat, k < n → ¬ (q' = q ∧ k = j) → best tm wh pb k true (loOf mk pub q') (mk q') (i + 1) = best tm wh pb k true (loOf mk pub q') (mk q') i := by
    intro q' hq' k hk hne
    refine best_skip ?_
    by_cases hkj : k = j
    · have hqq : q' ≠ q := fun e => hne ⟨e, hkj⟩
      rcases Nat.lt_or_gt_of_ne hqq with hlt | hgt
      · exact .inr (.inl (f1 q' hlt))
      · refine .inr (.inr ⟨rfl, ?_⟩)
        have a := f2 (q' - 1) (by omega) (by omega)
        unfold loOf
        split <;> omega
    · exact .inl (by rw [hw]; omega)
  have e3 : best tm wh pb j true (loOf mk pub q) (mk q) (i + 1) = if (best tm wh pb j true (loOf mk pub q) (mk q) i).1 = false ∨ (best tm wh pb j true (loOf mk pub q) (mk q) i).2.1 ≤ tm i then (true, tm i, pb i) else best tm wh pb j true (loOf mk pub q) (mk q) i := by
    refine best_take hw (by have := f2 q (Nat.le_refl _) hq; omega) ?_
    rintro ⟨_, hle⟩
    unfold loOf at hle
    split at hle
    · have := f1 (q - 1) (by omega); omega
    · omega
  have aj := h.ltr q hq j hj
  by_cases hc : s.ks q j = false ∨ s.kt q j ≤ tm i
  · have ec : s.kept q j (tm i) (pb i) g = ({ s with lt := upd s.lt q (some g) } : St).keep q j (tm i) (pb i) := by rw [St.kept, if_pos hc]
    rw [ec]
    refine ⟨fun k hk => by rw [e1 k hk]; exact h.now k hk, h.odd, h.cnt, fun q' hq' k hk => ?_, fun q' hq' => ?_⟩
    · by_cases hne : q' = q ∧ k = j
      · obtain ⟨rfl, rfl⟩ := hne
        rw [e3, if_pos (by rw [← aj.1, ← aj.2.1]; exact hc)]
        simp [St.keep, upd2]
      · rw [e2 q' hq' k hk hne]
        simp only [St.keep, upd2, if_neg hne]
        exact h.ltr q' hq' k hk
    · simp only [St.keep]
      by_cases hqq : q' = q
      · subst hqq
        simp only [upd, if_true]
        constructor
        · intro e; simp at e
        · intro e; have := e j hj; simp [upd2] at this
      · simp only [upd, upd2, hqq, false_and, if_false]
        exact h.nil q' hq'
  · have ec : s.kept q j (tm i) (pb i) g = { s with lt := upd s.lt q (some g) } := by rw [St.kept, if_neg hc]
    rw [ec]
    refine ⟨fun k hk => by rw [e1 k hk]; exact h.now k hk, h.odd, h.cnt, fun q' hq' k hk => ?_, fun q' hq' => ?_⟩
    · by_cases hne : q' = q ∧ k = j
      · obtain ⟨rfl, rfl⟩ := hne
        rw [e3, if_neg (by rw [← aj.1, ← aj.2.1]; exact hc)]
        exact aj
      · rw [e2 q' hq' k hk hne]
        exact h.ltr q' hq' k hk
    · by_cases hqq : q' = q
      · subst hqq
        simp only [upd, if_true]
        constructor
        · intro e; simp at e
        · intro e; exact absurd (.inl (e j hj)) hc
      · simp only [upd, if_neg hqq]
        exact h.nil q' hq'

/-! ### One tick taken -/
variable {x : Ids} {B N : Nat} {ia : Nat → Option Addr} {ic : Nat → Nat} {w : World}

theorem take_any (hF : Fix x N n m mk pub ia ic il w) (hV : Var x N n m s w) (hL : Lo B x N) (h : Inv tm wh pb n m mk pub il i s) (hnd : ∀ k, k < n → (il k).Nodup) (j : Nat) (hj : j < 5) (hw : wh i % 5 = j) :
    Calls Yba.prog 8 #[.pointer (some ⟨x.S, 0, none⟩), .agg #[.int .i64 (tm i), .string (idOf j), .float .f64 (pb i)]] w fun e w' =>
      e = .returned (.tuple #[]) ∧ Fix x N n m mk pub ia ic il w' ∧ (∃ s', Inv tm wh pb n m mk pub il (i + 1) s' ∧ Var x N n m s' w') ∧ Below B w w' := by
  have hBw : B ≤ w.heap.size := Nat.le_trans hL.2.2.2.2.2 hF.sz
  by_cases hjn : n ≤ j
  · refine (take_unknown j (tm i) (pb i) hF hjn hj).mono ?_
    rintro e w' ⟨rfl, hb⟩
    exact ⟨rfl, hF.below hb hF.sz, ⟨s, h.skip (.inl fun k hk => by rw [hw]; omega), hV.below hb⟩, hb.mono hBw⟩
  · have hjn' : j < n := by omega
    by_cases ht : tm i ≤ mk pub
    · refine take_value (fun w' => Fix x N n m mk pub ia ic il w' ∧ (∃ s', Inv tm wh pb n m mk pub il (i + 1) s' ∧ Var x N n m s' w') ∧ Below B w w') j (tm i) (pb i) hF hjn' ht ?_
      intro w2 hb2
      have F2 := hF.below hb2 hF.sz
      have V2 := hV.below hb2
      by_cases hh : s.ht j = false
      · refine (value_first j (tm i) (pb i) F2 V2 hL hjn' hh (fun e he => ?_)).mono ?_
        · rw [h.cnt e he]
          have := cntU_le e il s.ht n
          have := hF.nn.2
          omega
        · rintro e w' ⟨rfl, F, V, Bl⟩
          exact ⟨rfl, F, ⟨_, h.first hjn' hw ht hh (hnd j hjn'), V⟩, (hb2.mono hBw).trans Bl⟩
      · have hh' : s.ht j = true := by simpa using hh
        by_cases hl : tm i < s.ta j
        · refine (value_late j (tm i) (pb i) F2 V2 hjn' hh' hl).mono ?_
          rintro e w' ⟨rfl, rfl⟩
          exact ⟨rfl, F2, ⟨s, h.late hjn' hw ht hh' hl, V2⟩, hb2.mono hBw⟩
        · refine (value_again j (tm i) (pb i) F2 V2 hL hjn' hh' hl).mono ?_
          rintro e w' ⟨rfl, F, V, Bl⟩
          exact ⟨rfl, F, ⟨_, h.again hjn' hw ht hh' hl, V⟩, (hb2.mono hBw).trans Bl⟩
    · have ht' : mk pub < tm i := by omega
      obtain ⟨q, hq⟩ := FirstAt.ex m mk (tm i) hF.inc
      by_cases hqm : q = m
      · subst hqm
        refine (take_beyond j (tm i) (pb i) hF hjn' ht' hq).mono ?_
        rintro e w' ⟨rfl, hb⟩
        exact ⟨rfl, hF.below hb hF.sz, ⟨s, h.skip (.inr ⟨ht', fun a ha => hq.2.1 a ha⟩), hV.below hb⟩, hb.mono hBw⟩
      · have hqm' : q < m := by have := hq.1; omega
        cases hg : s.lt q with
        | some g =>
          refine (take_kept j q g (tm i) (pb i) hF hV hL hjn' ht' hqm' hq hg).mono ?_
          rintro e w' ⟨rfl, F, V, Bl⟩
          exact ⟨rfl, F, ⟨_, h.kept hjn' hw ht' hqm' hq hF.inc, V⟩, Bl⟩
        | none =>
          refine (take_fresh j q (tm i) (pb i) hF hV hL hjn' ht' hqm' hq hg (fun k hk => ?_)).mono ?_
          · have a := (h.nil q hqm').1 hg k hk
            have b := h.ltr q hqm' k hk
            have c := best_zero (by rw [← b.1]; exact a)
            exact ⟨by rw [b.2.1]; exact c.1, by rw [b.2.2]; exact c.2, a⟩
          · rintro e w' ⟨rfl, F, ⟨g, V⟩, Bl⟩
            exact ⟨rfl, F, ⟨_, h.kept hjn' hw ht' hqm' hq hF.inc, V⟩, Bl⟩
end
end Go.Proofs.Ybulkbhtk
