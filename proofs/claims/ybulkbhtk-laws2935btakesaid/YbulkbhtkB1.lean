import Derived.Test.YbulkbhtkB0
namespace Go.Proofs.Ybulkbhtk
open Go.RowKit

theorem less_any (x y : Int) (w : World) : Calls Yba.prog 12 #[.int .i64 x, .int .i64 y] w fun e w' => e = .returned (.bool (decide (x < y))) ∧ w' = w := by
  by_cases h : x < y
  all_goals
    go_enter Yba.func12, Yba.ntmps12
    go_wp2
    go_ret
    exact ⟨by simp [h], rfl⟩

/-- p is the first mark at or behind t. -/
def FirstAt (m : Nat) (mk : Nat → Int) (t : Int) (p : Nat) : Prop := p ≤ m ∧ (∀ i, i < p → mk i < t) ∧ (∀ i, p ≤ i → i < m → t ≤ mk i)
def hitB (m : Nat) (mk : Nat → Int) (t : Int) (p : Nat) : Bool := decide (p < m) && (mk p == t)
theorem FirstAt.eq {m : Nat} {mk : Nat → Int} {t : Int} {p p' : Nat} (h : FirstAt m mk t p) (h' : FirstAt m mk t p') : p = p' := by
  obtain ⟨a, b, c⟩ := h
  obtain ⟨a', b', c'⟩ := h'
  rcases Nat.lt_trichotomy p p' with h | h | h
  · have := b' p h; have := c p (Nat.le_refl _) (by omega); omega
  · exact h
  · have := b p' h; have := c' p' (Nat.le_refl _) (by omega); omega
theorem FirstAt.ex (m : Nat) (mk : Nat → Int) (t : Int) (hs : ∀ i j, i < j → j < m → mk i < mk j) : ∃ p, FirstAt m mk t p := by
  induction m with
  | zero => exact ⟨0, Nat.le_refl _, fun i hi => absurd hi (Nat.not_lt_zero _), fun i _ hi => absurd hi (Nat.not_lt_zero _)⟩
  | succ m ih =>
    obtain ⟨p, a, b, c⟩ := ih (fun i j h1 h2 => hs i j h1 (by omega))
    by_cases hp : p = m
    · subst hp
      by_cases h : mk p < t
      · exact ⟨p + 1, Nat.le_refl _, fun i hi => by
          by_cases e : i = p
          · rw [e]; exact h
          · exact b i (by omega), fun i h1 h2 => by omega⟩
      · exact ⟨p, by omega, b, fun i h1 h2 => by
          have : i = p := by omega
          rw [this]; omega⟩
    · exact ⟨p, by omega, b, fun i h1 h2 => by
        by_cases e : i = m
        · have := c (m - 1) (by omega) (by omega); have := hs (m - 1) m (by omega) (by omega); rw [e]; omega
        · exact c i h1 (by omega)⟩

set_option maxHeartbeats 400000 in
theorem search_any (g m : Nat) (mk : Nat → Int) (t : Int) (w : World) (hm : m ≤ 1025) (hrow : w.rowIs g 37 m (fun i => .int .i64 (mk i))) (hs : ∀ i j, i < j → j < m → mk i < mk j) (p : Nat) (hp : FirstAt m mk t p) :
    Calls Yba.prog 11 #[.slice (some ⟨g, 0, none⟩) m m, .int .i64 t] w fun e w' => e = .returned (.tuple #[.int .i64 p, .bool (hitB m mk t p)]) ∧ w' = w := by
  go_enter Yba.func11, Yba.ntmps11
  go_wp2
  go_loop [7, 8, 9] (fun a b _ => ∃ i j : Nat, i ≤ j ∧ j ≤ m ∧ a = .int .i64 i ∧ b = .int .i64 j ∧ (∀ l, l < i → mk l < t) ∧ (∀ l, j ≤ l → l < m → t ≤ mk l)) (fun a b _ => (intOf b).toNat - (intOf a).toNat)
  case atStart => exact ⟨0, m, Nat.zero_le _, Nat.le_refl _, rfl, rfl, fun l hl => absurd hl (Nat.not_lt_zero _), fun l h1 h2 => by omega⟩
  case round =>
    obtain ⟨i, j, hij, hjm, rfl, rfl, h1, h2⟩ := hrel
    by_cases hlt : i < j
    · have c := hrow.cell (show (i + j) / 2 < m by omega)
      by_cases q : mk ((i + j) / 2) < t
      · go_wp2_with (go_at_call 12; refine (less_any _ _ _).mono ?_; rintro e w' ⟨rfl, rfl⟩)
        go_round
        case rel => exact ⟨(i + j) / 2 + 1, j, by omega, hjm, by go_num, rfl, fun l hl => by
            by_cases e : l = (i + j) / 2
            · rw [e]; exact q
            · have := hs l ((i + j) / 2) (by omega) (by omega); omega, h2⟩
        case measure => simp [intOf]; omega
      · go_wp2_with (go_at_call 12; refine (less_any _ _ _).mono ?_; rintro e w' ⟨rfl, rfl⟩)
        go_round
        case rel => exact ⟨i, (i + j) / 2, by omega, by omega, rfl, by go_num, h1, fun l hl hm' => by
            by_cases e : l = (i + j) / 2
            · rw [e]; omega
            · have := hs ((i + j) / 2) l (by omega) hm'; omega⟩
        case measure => simp [intOf]; omega
    · obtain rfl : i = j := by omega
      obtain rfl : p = i := hp.eq ⟨hjm, h1, h2⟩
      clear h1 h2 hp
      by_cases hi : p < m
      · have c := hrow.cell hi
        by_cases q : mk p = t
        · have q' : (mk p == t) = true := by simpa using q
          clear q
          go_wp2
          go_ret2
          exact ⟨by simp [hitB, hi, q'], rfl⟩
        · have q' : (mk p == t) = false := by simpa using q
          clear q
          go_wp2
          go_ret2
          exact ⟨by simp [hitB, q'], rfl⟩
      · go_wp2
        go_ret2
        exact ⟨by simp [hitB, hi], rfl⟩
end Go.Proofs.Ybulkbhtk
