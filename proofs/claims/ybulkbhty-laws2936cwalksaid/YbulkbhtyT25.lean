import Derived.Test.YbulkbhtyT11
import Derived.Ground.NamesProg
import Derived.Ground.SlbCloneProg
import Derived.Shelf.Lay
import Derived.Shelf.Strconv.Itoa0
import Derived.Shelf.Bytes.SlClone
import Derived.Shelf.Bytes.SlEqualAll
import Derived.BigQuiet
import Derived.Laws.BitsAllLaws
namespace Go.Proofs
open Go.Shelf
shelf_lay Lays.n129 Nm 129 at Yba as Yba.lays129
shelf_lay SlLaysK.n4 Slk 4 at Yba as Yba.layClone
shelf_lay Lays.nb115 Nm 115 at Yba as Yba.lays115
end Go.Proofs
namespace Go.Proofs.Ybulkbhty.Tree
open Go.RowKit Go.WideShapes Go.Lib

theorem len64_any (x : Int) (w : World) (h0 : 0 ≤ x) (h1 : x ≤ 18446744073709551615) :
    Calls Yba.prog 46 #[.int .u64 x] w fun e w' => e = .returned (.int .i64 (Lib.bitLen x.toNat)) ∧ w' = w := Any.bits_Len64 Yba.lays129 x w h0 h1

theorem or1_range (x : Int) (h0 : 0 ≤ x) (h1 : x ≤ 9223372036854775807) : 0 ≤ bits .or .u64 x 1 ∧ bits .or .u64 x 1 ≤ 18446744073709551615 := by
  rw [u64_or x 1 h0 (by omega) (by omega) (by omega)]
  have := Nat.or_lt_two_pow (n := 64) (x := x.toNat) (y := (1 : Int).toNat) (by omega) (by decide)
  omega

theorem uvarint_any (x : Int) (w : World) (h0 : 0 ≤ x) (h1 : x ≤ 9223372036854775807) :
    Calls Yba.prog 36 #[.int .u64 x] w fun e w' => (∃ z, e = .returned (.int .i64 z)) ∧ ∃ n, w' = w.drewN n := by
  go_enter Yba.func36, Yba.ntmps36
  go_wp2_with (go_at_call 46; refine (len64_any _ _ (or1_range x h0 h1).1 (or1_range x h0 h1).2).mono ?_; rintro e w' ⟨rfl, rfl⟩)
  go_ret
  exact ⟨⟨_, rfl⟩, 0, rfl⟩

theorem framed_any (x : Int) (w : World) : Calls Yba.prog 27 #[.int .i64 x] w fun e w' => (∃ z, e = .returned (.int .i64 z)) ∧ ∃ n, w' = w.drewN n := by
  go_enter Yba.func27, Yba.ntmps27
  go_wp2_with fail
  all_goals go_ret
  all_goals exact ⟨⟨_, rfl⟩, 0, rfl⟩

theorem bytesSize_any (x : Int) (w : World) (h0 : 0 ≤ x) (h1 : x ≤ 9223372036854775807) : Calls Yba.prog 28 #[.int .i64 x] w fun e w' => (∃ z, e = .returned (.int .i64 z)) ∧ ∃ n, w' = w.drewN n := by
  have hw : IntKind.u64.wrap x = x := by rw [IntKind.wrap_u64]; omega
  have UV := fun W => uvarint_any x W h0 h1
  go_enter Yba.func28, Yba.ntmps28
  go_wp2_with (go_at_call 36; refine (UV _).mono ?_; rintro e w' ⟨⟨z, rfl⟩, n, rfl⟩)
  go_ret
  exact ⟨⟨_, rfl⟩, _, rfl⟩

theorem itemSize_any (k : Key) (v : Value) (a : Option Addr) (n c : Nat) (hv : v = .slice a n c) (w : World) (h1 : k.size ≤ maxLen) (h2 : n ≤ maxLen) : Calls Yba.prog 20 #[.string k, v] w fun e w' => (∃ z, e = .returned (.int .i64 z)) ∧ ∃ n, w' = w.drewN n := by
  subst hv
  unfold maxLen at h1 h2
  have B1 := fun W => bytesSize_any (k.size : Int) W (by omega) (by omega)
  have B2 := fun W => bytesSize_any (n : Int) W (by omega) (by omega)
  go_enter Yba.func20, Yba.ntmps20
  go_wp2_with (first | (go_at_call_of 28 (k.size : Int); refine (B1 _).mono ?_; rintro e w' ⟨⟨z, rfl⟩, n1, rfl⟩) | (go_at_call 28; refine (B2 _).mono ?_; rintro e w' ⟨⟨z2, rfl⟩, n2, rfl⟩) | (go_at_call 27; refine (framed_any _ _).mono ?_; rintro e w' ⟨⟨z3, rfl⟩, n3, rfl⟩))
  all_goals go_ret
  all_goals exact ⟨⟨_, rfl⟩, _, rfl⟩

/-- A value: a slice of bytes that nobody writes any more. -/
def Val (w : World) (v : Value) : Prop := ∃ (p : Option Addr) (n c : Nat) (xs : List Int), v = .slice p n c ∧ xs.length = n ∧ n ≤ maxLen ∧ BytesIn w p n xs
theorem Val.touch {w w' : World} {v : Value} {F : Nat → Prop} (h : Val w v) (ht : Touch F w w') (hF : ∀ b, v.ownBlock = some b → ¬ F b) : Val w' v := by
  obtain ⟨p, n, c, xs, rfl, hl, hm, hb⟩ := h
  refine ⟨p, n, c, xs, rfl, hl, hm, fun hn => ?_⟩
  obtain ⟨b, o, rfl, hc⟩ := hb hn
  refine ⟨b, o, rfl, fun i hi => ?_⟩
  have hlt : b < w.heap.size := World.block_lt_of_cell? w ⟨b, o + i, none⟩ (by rw [hc i hi])
  rw [← hc i hi]
  exact World.cell?_of_block (a := ⟨b, o + i, none⟩) (ht.block b hlt (hF b rfl))
theorem Val.nil (w : World) : Val w (.slice none 0 0) := ⟨none, 0, 0, [], rfl, rfl, Nat.zero_le _, BytesIn.nil w none []⟩

theorem equal_same (v : Value) (w : World) (h : Val w v) : Calls Yba.prog 10 #[v, v] w fun e w' => e = .returned (.bool true) ∧ w' = w := by
  obtain ⟨p, n, c, xs, rfl, hl, hm, hb⟩ := h
  refine (Any.bytes_Equal_all Yba.lays115 p p n c n c xs xs w hl hl hb hb).mono ?_
  rintro e w' ⟨rfl, rfl⟩
  simp

theorem clone_any (v : Value) (w : World) (h : Val w v) (hbig : ∀ p n c, v = .slice p n c → n ≤ 140737488355328) : Calls Yba.prog 15 #[v] w fun e w' => ∃ v', e = .returned v' ∧ Val w' v' ∧ (∀ b, v'.ownBlock = some b → w.heap.size ≤ b ∧ b < w'.heap.size) ∧ Touch (fun _ => False) w w' := by
  obtain ⟨p, n, c, xs, rfl, hl, hm, hb⟩ := h
  cases p with
  | none =>
    refine (Any.bytes_Clone_nil Yba.layClone n c w).mono ?_
    rintro e w' ⟨rfl, rfl⟩
    exact ⟨_, rfl, Val.nil _, fun b hb => by simp [Value.ownBlock] at hb, Touch.refl _ _⟩
  | some a =>
    have hc : ∀ i, i < n → w.cell? (a.add i) = some (.int .u8 (xs.getD i 0)) := fun i hi => by
      obtain ⟨b, o, e, hc⟩ := hb (by omega)
      cases e
      rw [Addr.add_lit]
      exact hc i hi
    refine (Any.bytes_Clone_at Yba.layClone a n c xs w hl (hbig _ _ _ rfl) hc).mono ?_
    rintro e w' ⟨v', rfl, ho, hn, hbl⟩
    have ht : Touch (fun _ => False) w w' := ⟨hbl.os, hbl.tape, hbl.output, hbl.size, fun k hk _ => hbl.block k hk⟩
    have hcell := fun g => ho.cells (g := g)
    obtain ⟨hlen, ho⟩ := ho
    rcases ho with ⟨rfl, _⟩ | ⟨g, cap, cur, rfl, hg, hgc, hle, hcm, hcs, htake⟩
    · exact absurd rfl hn
    · refine ⟨_, rfl, ⟨some ⟨g, 0, none⟩, n, cap, xs, rfl, hl, hm, fun _ => ⟨g, 0, rfl, fun i hi => ?_⟩⟩, fun b hb => ?_, ht⟩
      · have := hcell g rfl i (.int .u8 (xs.getD i 0)) (by simp [hl, hi])
        rw [Addr.add_lit] at this
        exact this
      · simp [Value.ownBlock] at hb
        subst hb
        exact ⟨hg, (Array.getElem?_eq_some_iff.1 hgc).1⟩
end Go.Proofs.Ybulkbhty.Tree
