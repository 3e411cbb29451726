import Derived.Test.YbulkbhtyRows
import Derived.WalkKit
import Derived.WalkSpells
import Derived.WalkLawsBesides
import Derived.Deep.OwnRows
import Derived.Deep.QuietTactic
import Derived.BigQuiet
import Derived.Deep.LoopGhost
import Derived.Deep.Cut
namespace Go.Proofs.Ybulkbhty
open Go.RowKit

/-- Only block g may have turned; no block has come or gone. -/
structure Only (g : Nat) (w w' : World) : Prop where
  os : w'.os = w.os
  tape : w'.tape = w.tape
  output : w'.output = w.output
  size : w'.heap.size = w.heap.size
  block : ∀ k, k ≠ g → w'.heap[k]? = w.heap[k]?

theorem Only.refl (g : Nat) (w : World) : Only g w w := ⟨rfl, rfl, rfl, rfl, fun _ _ => rfl⟩
theorem Only.setCell {g : Nat} {w w' : World} (h : Only g w w') (o : Nat) (v : Value) : Only g w (w'.setCell ⟨g, o, none⟩ v) :=
  ⟨h.os, h.tape, h.output, by simpa [World.setCell] using h.size, fun k hk => (Below.heap_setCell _ _ _ _ hk).trans (h.block k hk)⟩
theorem Only.below {g B : Nat} {w w' : World} (h : Only g w w') (hB : B ≤ g) : Below B w w' :=
  ⟨h.os, h.tape, h.output, by rw [h.size]; exact Nat.le_refl _, fun k hk => h.block k (by omega)⟩
theorem Only.drewN {g : Nat} {w w' : World} (h : Only g w w') (n : Nat) : Only g w (w'.drewN n) := ⟨h.os, h.tape, h.output, h.size, h.block⟩

def blk (c : Int) : Bool := decide (c = 32 ∨ c = 9 ∨ c = 10 ∨ c = 13)

theorem isBlank_any (c : Int) (w : World) : Calls Yba.prog 19 #[.int .u8 c] w fun e w' => e = .returned (.bool (blk c)) ∧ w' = w := by
  by_cases h1 : c = 32
  · subst h1
    go_enter Yba.func19, Yba.ntmps19
    go_wp2
    go_ret
    exact ⟨rfl, rfl⟩
  by_cases h2 : c = 9
  · subst h2
    go_enter Yba.func19, Yba.ntmps19
    go_wp2
    go_ret
    exact ⟨rfl, rfl⟩
  by_cases h3 : c = 10
  · subst h3
    go_enter Yba.func19, Yba.ntmps19
    go_wp2
    go_ret
    exact ⟨rfl, rfl⟩
  by_cases h4 : c = 13
  · subst h4
    go_enter Yba.func19, Yba.ntmps19
    go_wp2
    go_ret
    exact ⟨rfl, rfl⟩
  have q1 : (c == 32) = false := by simpa using h1
  have q2 : (c == 9) = false := by simpa using h2
  have q3 : (c == 10) = false := by simpa using h3
  have q4 : (c == 13) = false := by simpa using h4
  have e : blk c = false := by simp [blk, h1, h2, h3, h4]
  clear h1 h2 h3 h4
  go_enter Yba.func19, Yba.ntmps19
  go_wp2
  go_ret
  rw [e]
  exact ⟨rfl, rfl⟩

theorem ablank_any (c : Int) (w : World) : Calls Yba.prog 12 #[.int .u8 c] w fun e w' => e = .returned (.bool (blk c)) ∧ w' = w := by
  by_cases h1 : c = 32
  · subst h1
    go_enter Yba.func12, Yba.ntmps12
    go_wp2
    go_ret
    exact ⟨rfl, rfl⟩
  by_cases h2 : c = 9
  · subst h2
    go_enter Yba.func12, Yba.ntmps12
    go_wp2
    go_ret
    exact ⟨rfl, rfl⟩
  by_cases h3 : c = 10
  · subst h3
    go_enter Yba.func12, Yba.ntmps12
    go_wp2
    go_ret
    exact ⟨rfl, rfl⟩
  by_cases h4 : c = 13
  · subst h4
    go_enter Yba.func12, Yba.ntmps12
    go_wp2
    go_ret
    exact ⟨rfl, rfl⟩
  have q1 : (c == 32) = false := by simpa using h1
  have q2 : (c == 9) = false := by simpa using h2
  have q3 : (c == 10) = false := by simpa using h3
  have q4 : (c == 13) = false := by simpa using h4
  have e : blk c = false := by simp [blk, h1, h2, h3, h4]
  clear h1 h2 h3 h4
  go_enter Yba.func12, Yba.ntmps12
  go_wp2
  go_ret
  rw [e]
  exact ⟨rfl, rfl⟩

/-- Byte i is a blank. -/
def blkAt (s : ByteArray) (i : Nat) : Bool := if h : i < s.size then blk ((s[i]'h).toNat : Int) else false
theorem blkAt_eq (s : ByteArray) (i : Nat) (h : i < s.size) : blkAt s i = blk ((s[i]'h).toNat : Int) := by simp [blkAt, h]

/-- Where skipBlanks comes to. -/
structure Skip (s : ByteArray) (p r : Nat) : Prop where
  lo : p ≤ r
  hi : r ≤ s.size
  all : ∀ i, p ≤ i → i < r → blkAt s i = true
  stop : r < s.size → blkAt s r = false

theorem one_set3 {w : World} {g : Nat} {a b c v : Value} {t : TypeId} (h : w.heap[g]? = some (.cells #[a, b, c] t (0, 0))) : (w.setCell ⟨g, 1, none⟩ v).heap[g]? = some (.cells #[a, v, c] t (0, 0)) := by
  have hlt := lt_of_block h
  have h' : w.heap[g] = .cells #[a, b, c] t (0, 0) := by simpa [Array.getElem?_eq_getElem hlt] using h
  show (w.heap.modify g _)[g]? = _
  rw [Array.getElem?_eq_getElem (by simpa using hlt), Array.getElem_modify_self, h']
  rfl

set_option maxHeartbeats 1000000 in
theorem skip_any (s : ByteArray) (g p : Nat) (o : Bool) (w : World) (hs : s.size ≤ 65536) (hp : p ≤ s.size) (hg : w.heap[g]? = some (.cells #[.string s, .int .i64 (p : Int), .bool o] 41 (0, 0))) :
    Calls Yba.prog 11 #[.pointer (some ⟨g, 0, none⟩)] w fun e w' => e = .returned (.tuple #[]) ∧ (∃ r, Skip s p r ∧ w'.heap[g]? = some (.cells #[.string s, .int .i64 (r : Int), .bool o] 41 (0, 0))) ∧ Only g w w' := by
  go_enter Yba.func11, Yba.ntmps11
  go_wp2
  go_loopg [23] (s.size - p) (fun gk _ wx => ∃ k : Nat, p ≤ k ∧ k ≤ s.size ∧ gk = s.size - k ∧ (∀ i, p ≤ i → i < k → blkAt s i = true) ∧ wx.heap[g]? = some (.cells #[.string s, .int .i64 (k : Int), .bool o] 41 (0, 0)) ∧ Only g w wx)
  case atStart => exact ⟨p, Nat.le_refl _, hp, rfl, fun i h1 h2 => by omega, hg, Only.refl _ _⟩
  case round =>
    obtain ⟨k, hk1, hk2, hgk, hall, hb, ho⟩ := hrel
    have HGK : Hid (gk = s.size - k) := hgk
    have c0 : wr.cell? ⟨g, 0, none⟩ = some (.string s) := by simp [World.cell?, hb]
    have c1 : wr.cell? ⟨g, 1, none⟩ = some (.int .i64 (k : Int)) := by simp [World.cell?, hb]
    have f1 : wr.frozen? ⟨g, 1, none⟩ = false := by simp [World.frozen?, hb]
    have B2 := fun v => one_set3 (v := v) hb
    have HB : Hid (wr.heap[g]? = some (.cells #[.string s, .int .i64 (k : Int), .bool o] 41 (0, 0))) := hb
    clear hgk hg hb
    by_cases hlt : k < s.size
    · have hi : (k : Int) < (s.size : Int) := by omega
      have he := blkAt_eq s k hlt
      cases hbk : blk ((s[k]'hlt).toNat : Int)
      · rw [hbk] at he
        go_upto_region 0 with fail
        go_quiet ((go_at_call 19; exact Calls.quiet_of_same (isBlank_any _ _)))
        go_wp2
        go_end0
        exact ⟨rfl, ⟨k, ⟨hk1, hk2, hall, fun _ => he⟩, HB.out⟩, ho.drewN _⟩
      · rw [hbk] at he
        go_upto_region 0 with fail
        go_quiet ((go_at_call 19; exact Calls.quiet_of_same (isBlank_any _ _)))
        go_wp2
        go_roundg (s.size - (k + 1))
        case measure => have := HGK.out; omega
        case rel =>
          have e : ((k + 1 : Nat) : Int) = (k : Int) + 1 := by omega
          refine ⟨k + 1, by omega, by omega, rfl, fun i h1 h2 => ?_, ?_, (ho.drewN _).setCell 1 _⟩
          · by_cases e : i = k
            · rw [e]; exact he
            · exact hall i h1 (by omega)
          · rw [e]; exact B2 _
    · have hd : decide ((k : Int) < (s.size : Int)) = false := decide_eq_false (by omega)
      go_upto_region 0 with fail
      go_quiet (fail)
      go_wp2
      go_end0
      exact ⟨rfl, ⟨k, ⟨hk1, hk2, hall, fun h => absurd h hlt⟩, HB.out⟩, ho.drewN _⟩

set_option maxHeartbeats 1000000 in
theorem check_any (s : ByteArray) (p : Nat) (o : Bool) (w : World) (hs : s.size ≤ 65536) (hp : p ≤ s.size) :
    Calls Yba.prog 7 #[.string s, .int .i64 (p : Int), .bool o] w fun e w' => e = .returned (.bool true) ∧ Below w.heap.size w w' := by
  go_enter Yba.func7, Yba.ntmps7
  go_upto_region 2 with fail
  have hb : (w.alloc (.cells #[.string s, .int .i64 (p : Int), .bool o] 41)).heap[w.heap.size]? = some (.cells #[.string s, .int .i64 (p : Int), .bool o] 41 (0, 0)) := Deep.blk_alloc_new _ _
  have SK := skip_any s w.heap.size p o _ hs hp hb
  go_upto_region 3 with (go_at_call 11; refine SK.mono ?_; rintro e w2 ⟨rfl, ⟨r, hr, hb2⟩, ho⟩)
  have B2 : Below w.heap.size w w2 := ((Below.refl _ _).alloc (Nat.le_refl _) _).trans (ho.below (Nat.le_refl _))
  have c0 : w2.cell? ⟨w.heap.size, 0, none⟩ = some (.string s) := by simp [World.cell?, hb2]
  have c1 : w2.cell? ⟨w.heap.size, 1, none⟩ = some (.int .i64 (r : Int)) := by simp [World.cell?, hb2]
  have c2 : w2.cell? ⟨w.heap.size, 2, none⟩ = some (.bool o) := by simp [World.cell?, hb2]
  obtain ⟨h1, h2, h3, h4⟩ := hr
  clear SK hb ho hb2
  have t1 : decide (r < p) = false := decide_eq_false (by omega)
  have t2 : decide (s.size < r) = false := decide_eq_false (by omega)
  go_wp2
  go_loopg [9] (r - p) (fun gk i wx => ∃ k : Nat, p ≤ k ∧ k ≤ r ∧ gk = r - k ∧ i = .int .i64 (k : Int) ∧ wx = w2)
  case atStart => exact ⟨p, Nat.le_refl _, h1, rfl, rfl, rfl⟩
  case round =>
    obtain ⟨k, hk1, hk2, hgk, rfl, rfl⟩ := hrel
    have HGK : Hid (gk = r - k) := hgk
    clear hgk
    by_cases hlt : k < r
    · have hks : k < s.size := by omega
      have he := h3 k hk1 hlt
      rw [blkAt_eq s k hks] at he
      have AB := ablank_any ((s[k]'hks).toNat : Int) wr
      rw [he] at AB
      clear h3 h4
      go_wp2_with (go_at_call 12; refine AB.mono ?_; rintro e w3 ⟨rfl, hw3⟩; subst hw3)
      go_roundg (r - (k + 1))
      case measure => have := HGK.out; omega
      case rel => exact ⟨k + 1, by omega, by omega, rfl, by go_num, rfl⟩
    · clear h3
      by_cases hrs : r < s.size
      · have he := h4 hrs
        rw [blkAt_eq s r hrs] at he
        have AB := ablank_any ((s[r]'hrs).toNat : Int) wr
        rw [he] at AB
        clear h4
        go_wp2_with (go_at_call 12; refine AB.mono ?_; rintro e w3 ⟨rfl, hw3⟩; subst hw3)
        go_ret
        exact ⟨rfl, B2⟩
      · clear h4
        go_wp2
        go_ret
        exact ⟨rfl, B2⟩
end Go.Proofs.Ybulkbhty
