import Derived.Test.YbulkbhtyRows
import Derived.Lib.Bytealg
import Derived.WalkKit
import Derived.ProofKit
import Derived.Below
import Derived.WalkSmall
import Derived.WalkLawsBesides
import Derived.Laws.Externs
namespace Go.Proofs.Ybulkbhty.Tree
open Go.RowKit Go.WideShapes Go.Lib

/-! ### The order of the names -/
theorem cmp_self : ∀ a : List UInt8, compareBytes a a = 0
  | [] => rfl
  | x :: xs => by simp [compareBytes, UInt8.lt_irrefl, cmp_self xs]
theorem cmp_zero : ∀ {a b : List UInt8}, compareBytes a b = 0 → a = b
  | [], [], _ => rfl
  | [], _ :: _, h => by simp [compareBytes] at h
  | _ :: _, [], h => by simp [compareBytes] at h
  | x :: xs, y :: ys, h => by
    simp only [compareBytes] at h
    split at h
    · simp at h
    · split at h
      · simp at h
      · rename_i h1 h2
        have e : x = y := UInt8.le_antisymm (UInt8.not_lt.1 h2) (UInt8.not_lt.1 h1)
        rw [e, cmp_zero h]
theorem cmp_swap : ∀ a b : List UInt8, compareBytes b a = - compareBytes a b
  | [], [] => rfl
  | [], _ :: _ => rfl
  | _ :: _, [] => rfl
  | x :: xs, y :: ys => by
    simp only [compareBytes]
    by_cases h1 : x < y
    · have h2 : ¬ y < x := UInt8.not_lt.2 (UInt8.le_of_lt h1)
      simp [h1, h2]
    · by_cases h2 : y < x
      · simp [h1, h2]
      · simp [h1, h2, cmp_swap xs ys]
theorem cmp_trans : ∀ {a b c : List UInt8}, compareBytes a b < 0 → compareBytes b c < 0 → compareBytes a c < 0
  | [], [], _, h, _ => by simp [compareBytes] at h
  | [], _ :: _, [], _, h => by simp [compareBytes] at h
  | [], _ :: _, _ :: _, _, _ => by simp [compareBytes]
  | _ :: _, [], _, h, _ => by simp [compareBytes] at h
  | _ :: _, _ :: _, [], _, h => by simp [compareBytes] at h
  | x :: xs, y :: ys, z :: zs, h1, h2 => by
    simp only [compareBytes] at h1 h2 ⊢
    by_cases a1 : x < y
    · by_cases a2 : y < z
      · simp [UInt8.lt_trans a1 a2]
      · by_cases a3 : z < y
        · simp [a2, a3] at h2
        · have e : y = z := UInt8.le_antisymm (UInt8.not_lt.1 a3) (UInt8.not_lt.1 a2)
          subst e; simp [a1]
    · by_cases a2 : y < x
      · simp [a1, a2] at h1
      · have e : x = y := UInt8.le_antisymm (UInt8.not_lt.1 a2) (UInt8.not_lt.1 a1)
        subst e
        simp only [a1, if_false] at h1
        by_cases a3 : x < z
        · simp [a3]
        · by_cases a4 : z < x
          · simp [a3, a4] at h2
          · simp only [a3, a4, if_false] at h2 ⊢
            exact cmp_trans h1 h2

abbrev Key := ByteArray
def kcmp (a b : Key) : Int := compareBytes a.data.toList b.data.toList
/-- a comes ahead of b. -/
def KLt (a b : Key) : Prop := kcmp a b < 0
instance (a b : Key) : Decidable (KLt a b) := by unfold KLt; infer_instance
theorem kcmp_self (a : Key) : kcmp a a = 0 := cmp_self _
theorem kcmp_zero {a b : Key} (h : kcmp a b = 0) : a = b := by
  have := cmp_zero h
  apply ByteArray.ext; apply Array.toList_inj.1; exact this
theorem kcmp_swap (a b : Key) : kcmp b a = - kcmp a b := cmp_swap _ _
theorem KLt.irrefl (a : Key) : ¬ KLt a a := by simp [KLt, kcmp_self]
theorem KLt.trans {a b c : Key} (h : KLt a b) (k : KLt b c) : KLt a c := cmp_trans h k
theorem KLt.asymm {a b : Key} (h : KLt a b) : ¬ KLt b a := fun k => KLt.irrefl a (h.trans k)
theorem KLt.ne {a b : Key} (h : KLt a b) : a ≠ b := fun e => KLt.irrefl a (by rw [← e] at h; exact h)
theorem KLt.tri (a b : Key) : KLt a b ∨ a = b ∨ KLt b a := by
  unfold KLt
  rw [kcmp_swap a b]
  rcases Int.lt_trichotomy (kcmp a b) 0 with h | h | h
  · exact .inl h
  · exact .inr (.inl (kcmp_zero h))
  · exact .inr (.inr (by omega))
theorem KLt.of_not {a b : Key} (h : ¬ KLt a b) (hne : a ≠ b) : KLt b a := by
  rcases KLt.tri a b with k | k | k
  · exact absurd k h
  · exact absurd k hne
  · exact k

/-- Strictly rising. -/
abbrev Rising (L : List Key) : Prop := L.Pairwise KLt

theorem bytesLess_cmp : ∀ a b : List UInt8, Op.bytesLess a b = decide (compareBytes a b < 0)
  | [], [] => rfl
  | [], _ :: _ => rfl
  | _ :: _, [] => rfl
  | x :: xs, y :: ys => by
    simp only [Op.bytesLess, compareBytes]
    by_cases h1 : x < y
    · simp [h1]
    · by_cases h2 : y < x
      · have hne : x ≠ y := fun e => h1 (by rw [e] at h2; exact absurd h2 (UInt8.lt_irrefl _))
        simp [h1, h2, hne]
      · have e : x = y := UInt8.le_antisymm (UInt8.not_lt.1 h2) (UInt8.not_lt.1 h1)
        subst e; simp [bytesLess_cmp xs ys]
theorem bytesLess_key (a b : Key) : Op.bytesLess a.toList b.toList = decide (KLt a b) := by
  rw [ByteArray.toList_eq, ByteArray.toList_eq, bytesLess_cmp]; rfl
theorem beq_key (a b : Key) : (a.toList == b.toList) = decide (a = b) := by
  rw [ByteArray.toList_eq, ByteArray.toList_eq]
  by_cases h : a = b
  · subst h; simp
  · have : ¬ a.data = b.data := fun e => h (ByteArray.ext e)
    simp [h, this]

/-! ### strings.Compare -/
theorem compareString_any (a b : Key) (w : World) : Calls Yba.prog 35 #[.string a, .string b] w fun e w' => e = .returned (.int .i64 (kcmp a b)) ∧ w' = w := by
  go_enter Yba.func35, Yba.ntmps35
  go_wp2
  rw [run_callFunc_extern Yba.func45 (by kernel_rfl) (by kernel_rfl) (by kernel_rfl) (e := Extern.BytealgCompare.compare) (by kernel_rfl), Lib.run_compareString]
  simp only [Result.andThen]
  rw [Oper.upon_value]
  go_wp2
  go_ret
  exact ⟨rfl, rfl⟩
theorem compare_any (a b : Key) (w : World) : Calls Yba.prog 26 #[.string a, .string b] w fun e w' => e = .returned (.int .i64 (kcmp a b)) ∧ w' = w := by
  go_enter Yba.func26, Yba.ntmps26
  go_wp2_with (go_at_call 35; refine (compareString_any _ _ _).mono ?_; rintro e w' ⟨rfl, rfl⟩)
  go_ret
  exact ⟨rfl, rfl⟩

/-! ### slices.BinarySearchFunc(keys, k, strings.Compare) -/
structure Place (n : Nat) (K : Nat → Key) (k : Key) (i : Nat) : Prop where
  le : i ≤ n
  lo : ∀ j, j < i → KLt (K j) k
  hi : ∀ j, i ≤ j → j < n → ¬ KLt (K j) k

set_option maxHeartbeats 1000000 in
theorem search_any (b n c : Nat) (K : Nat → Key) (k : Key) (w : World) (hn : n ≤ 64) (hc : ∀ j, j < n → w.cell? ⟨b, j, none⟩ = some (.string (K j))) (hm : ∀ i j, i < j → j < n → KLt (K i) (K j)) :
    Calls Yba.prog 25 #[.slice (some ⟨b, 0, none⟩) n c, .string k, .func (.func 26) #[] #[]] w fun e w' => ∃ i, Place n K k i ∧ e = .returned (.tuple #[.int .i64 (i : Int), .bool (decide (i < n ∧ K i = k))]) ∧ w' = w := by
  have CP := fun x W => compare_any x k W
  go_enter Yba.func25, Yba.ntmps25
  go_wp2_with fail
  go_loopw [9, 10, 11] (fun i j _ wx => ∃ p q : Nat, i = .int .i64 (p : Int) ∧ j = .int .i64 (q : Int) ∧ p ≤ q ∧ q ≤ n ∧ (∀ x, x < p → KLt (K x) k) ∧ (∀ x, q ≤ x → x < n → ¬ KLt (K x) k) ∧ w = wx) (fun i j _ _ => (intOf j).toNat - (intOf i).toNat)
  case atStart => exact ⟨0, n, rfl, rfl, Nat.zero_le _, Nat.le_refl _, fun x h => absurd h (Nat.not_lt_zero _), fun x h1 h2 => absurd h2 (by omega), rfl⟩
  case round =>
    obtain ⟨p, q, rfl, rfl, hpq, hq, hlo, hhi, rfl⟩ := hrel
    by_cases hlt : p < q
    · obtain ⟨m, hmm⟩ : ∃ m, m = (p + q) / 2 := ⟨_, rfl⟩
      have hm2 : ((p : Int) + q) / 2 = (m : Int) := by omega
      have hmq : m < q := by omega
      have hpm : p ≤ m := by omega
      have hh := hc m (by omega)
      by_cases hk : KLt (K m) k
      · have hk' : kcmp (K m) k < 0 := hk
        have hlo' : ∀ x, x < m + 1 → KLt (K x) k := fun x hx => by
          rcases Nat.lt_or_ge x m with h | h
          · exact (hm x m h (by omega)).trans hk
          · obtain rfl : x = m := by omega
            exact hk
        clear hc hm hlo hk hmm
        go_wp2_with (go_at_call 26; refine (CP _ _).mono ?_; rintro e w' ⟨rfl, rfl⟩)
        go_roundw
        case rel => exact ⟨m + 1, q, by go_num, rfl, by omega, hq, hlo', hhi, by trivial⟩
        case measure => simp [intOf]; omega
      · have hk' : ¬ kcmp (K m) k < 0 := hk
        have hhi' : ∀ x, m ≤ x → x < n → ¬ KLt (K x) k := fun x hx hxn h => by
          rcases Nat.lt_or_ge m x with h2 | h2
          · exact hk ((hm m x h2 hxn).trans h)
          · obtain rfl : x = m := by omega
            exact hk h
        clear hc hm hhi hk hmm
        go_wp2_with (go_at_call 26; refine (CP _ _).mono ?_; rintro e w' ⟨rfl, rfl⟩)
        go_roundw
        case rel => exact ⟨p, m, rfl, by go_num, hpm, by omega, hlo, hhi', by trivial⟩
        case measure => simp [intOf]; omega
    · obtain rfl : p = q := by omega
      have hP : Place n K k p := ⟨hq, hlo, hhi⟩
      by_cases hpn : p < n
      · have hh := hc p hpn
        clear hc hm hlo hhi
        by_cases hk : K p = k
        · have hk' : kcmp (K p) k = 0 := by rw [hk]; exact kcmp_self _
          have ed : decide (p < n ∧ K p = k) = true := by simp [hpn, hk]
          clear hk
          go_wp2_with (go_at_call 26; refine (CP _ _).mono ?_; rintro e w' ⟨rfl, rfl⟩)
          go_ret2
          exact ⟨p, hP, by rw [ed]; rfl, rfl⟩
        · have hk' : (kcmp (K p) k == 0) = false := by simpa using fun h => hk (kcmp_zero h)
          have ed : decide (p < n ∧ K p = k) = false := by simp [hk]
          clear hk
          go_wp2_with (go_at_call 26; refine (CP _ _).mono ?_; rintro e w' ⟨rfl, rfl⟩)
          go_ret2
          exact ⟨p, hP, by rw [ed]; rfl, rfl⟩
      · have ed : decide (p < n ∧ K p = k) = false := by simp [hpn]
        clear hc hm hlo hhi
        go_wp2_with fail
        go_ret2
        exact ⟨p, hP, by rw [ed]; rfl, rfl⟩
end Go.Proofs.Ybulkbhty.Tree
