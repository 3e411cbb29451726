import Derived.Test.YbulkbhtyT13
import Derived.Test.YbulkbhtyT21
import Derived.Test.YbulkbhtyT22
import Derived.Test.YbulkbhtyT24
import Derived.Test.YbulkbhtyT25
namespace Go.Proofs.Ybulkbhty.Tree
open Go.RowKit Go.WideShapes Go.Lib Go.Maps

theorem vec_two (w : World) (v u : Value) (t : Nat) : Vec (w.alloc (.cells #[v, u] t)) w.heap.size t 2 [v, u] := by
  refine ⟨fun j => if j = 0 then v else u, World.rowIs_alloc w #[v, u] t _ (fun j hj => ?_), by simp, fun j x hj => ?_⟩
  · have h1 : j < 2 := hj
    rcases show j = 0 ∨ j = 1 by omega with rfl | rfl <;> rfl
  · match j, hj with
    | 0, hj => simpa using hj
    | 1, hj => simpa using hj

def SliceV (v : Value) : Prop := ∃ a n c, v = .slice a n c ∧ n ≤ maxLen

/-- The item set that holds M. -/
structure St (w : World) (S : Nat) (t : Tr) (m : Value) (p sz : Int) (M : List (Key × Value)) : Prop where
  row : SetRow w S m (.int .i64 p) t.ptr (.int .i64 (t.flat.length : Int)) (.int .i64 sz)
  pk : 0 ≤ p ∧ p ≤ 2000
  fld : MapField w m M
  tree : t.At w
  good : t.Good
  rise : Rising t.flat
  mem : ∀ k, k ∈ t.flat ↔ (look M k).isSome = true
  len : t.flat.length = M.length
  s1 : S ∉ t.blocks
  s2 : S ∉ mblk m
  s3 : ∀ b ∈ mblk m, b ∉ t.blocks
def Foot (S : Nat) (t : Tr) (m : Value) (b : Nat) : Prop := b = S ∨ b ∈ t.blocks ∨ b ∈ mblk m

theorem St.lt {w : World} {S : Nat} {t : Tr} {m : Value} {p sz : Int} {M : List (Key × Value)} (h : St w S t m p sz M) : ∀ b, Foot S t m b → b < w.heap.size := by
  rintro b (rfl | hb | hb)
  · exact h.row.lt
  · exact h.tree.blk_lt b hb
  · exact h.fld.lt b hb
theorem St.touch {w w' : World} {S : Nat} {t : Tr} {m : Value} {p sz : Int} {M : List (Key × Value)} {F : Nat → Prop} (h : St w S t m p sz M) (ht : Touch F w w') (hF : ∀ b, Foot S t m b → ¬ F b) : St w' S t m p sz M :=
  ⟨h.row.touch ht (hF S (.inl rfl)), h.pk, h.fld.touch ht (fun b hb => hF b (.inr (.inr hb))), h.tree.touch ht (fun b hb => hF b (.inr (.inl hb))), h.good, h.rise, h.mem, h.len, h.s1, h.s2, h.s3⟩

/-- The size's field turned. -/
theorem St.sized {w w' : World} {S : Nat} {t : Tr} {m : Value} {p sz sz' : Int} {M : List (Key × Value)} (h : St w S t m p sz M) (ht : Touch (· = S) w w') (hr : SetRow w' S m (.int .i64 p) t.ptr (.int .i64 (t.flat.length : Int)) (.int .i64 sz')) : St w' S t m p sz' M :=
  ⟨hr, h.pk, h.fld.touch ht (fun b hb e => h.s2 (by rw [← e]; exact hb)), h.tree.touch ht (fun b hb e => h.s1 (by rw [← e]; exact hb)), h.good, h.rise, h.mem, h.len, h.s1, h.s2, h.s3⟩

/-- The map turned, the tree as it was. -/
theorem St.mapped {w w' : World} {S : Nat} {t : Tr} {m m' : Value} {p p' sz : Int} {M M' : List (Key × Value)} (h : St w S t m p sz M) (hd : MapDone S m t.ptr (.int .i64 (t.flat.length : Int)) (.int .i64 sz) M' w m' p' w') :
    t.At w' ∧ S ∉ mblk m' ∧ ∀ b ∈ mblk m', b ∉ t.blocks := by
  refine ⟨h.tree.touch hd.tc (fun b hb e => e.elim (fun e => h.s1 (by rw [← e]; exact hb)) (fun e => h.s3 b e hb)), fun e => ?_, fun b hb hbt => ?_⟩
  · rcases hd.blk S e with e | e
    · exact h.s2 e
    · have := h.row.lt; omega
  · rcases hd.blk b hb with e | e
    · exact h.s3 b e hbt
    · have := h.tree.blk_lt b hbt; omega

structure StNext (S : Nat) (t : Tr) (m : Value) (w : World) (M' : List (Key × Value)) (t' : Tr) (m' : Value) (p' sz' : Int) (w' : World) : Prop where
  st : St w' S t' m' p' sz' M'
  ft : ∀ b, Foot S t' m' b → Foot S t m b ∨ w.heap.size ≤ b
  tc : Touch (Foot S t m) w w'

/-- From a world on that parts from w by new blocks and by S alone. -/
theorem StNext.from {S : Nat} {t t' : Tr} {m m' : Value} {w w1 w' : World} {M' : List (Key × Value)} {p' sz' : Int} (h : StNext S t m w1 M' t' m' p' sz' w') (ht : Touch (· = S) w w1) : StNext S t m w M' t' m' p' sz' w' :=
  ⟨h.st, fun b hb => (h.ft b hb).imp id (fun e => Nat.le_trans ht.size e), (ht.mono (fun _ _ e => .inl e)).trans h.tc (fun _ _ e => e)⟩

theorem next_same {w w' : World} {S : Nat} {t : Tr} {m m' : Value} {p p' sz : Int} {M M' : List (Key × Value)} (h : St w S t m p sz M) (hd : MapDone S m t.ptr (.int .i64 (t.flat.length : Int)) (.int .i64 sz) M' w m' p' w')
    (hlk : ∀ k, (look M' k).isSome = (look M k).isSome) (hlen : M'.length = M.length) : StNext S t m w M' t m' p' sz w' := by
  obtain ⟨h1, h2, h3⟩ := h.mapped hd
  refine ⟨⟨hd.row, hd.pk, hd.fld, h1, h.good, h.rise, fun k => by rw [hlk]; exact h.mem k, by rw [hlen]; exact h.len, h.s1, h2, h3⟩, fun b hb => ?_, hd.tc.mono (fun x _ e => e.elim .inl (fun e => .inr (.inr e)))⟩
  rcases hb with e | e | e
  · exact .inl (.inl e)
  · exact .inl (.inr (.inl e))
  · exact (hd.blk b e).imp (fun e => .inr (.inr e)) id

theorem next_put {w w' w'' : World} {S : Nat} {t t' : Tr} {m m' : Value} {p p' sz : Int} {M M' : List (Key × Value)} {k : Key} {v : Value} {X Y : List Key} (h : St w S t m p sz M) (hd : MapDone S m t.ptr (.int .i64 (t.flat.length : Int)) (.int .i64 sz) M' w m' p' w')
    (hp : Puts M k v M') (hno : look M k = none) (hs : SetPut S t k m' (.int .i64 p') (.int .i64 sz) w' t' X Y w'') : StNext S t m w M' t' m' p' sz w'' := by
  obtain ⟨h1, h2, h3⟩ := h.mapped hd
  have hz := hd.tc.size
  have hmt : ∀ b ∈ mblk m', b ∉ t'.blocks := fun b hb e => by
    rcases hs.bl b e with e | e
    · exact h3 b hb e
    · have := hd.fld.lt b hb; omega
  have hr := h.rise
  rw [hs.old] at hr
  refine ⟨⟨hs.row, hd.pk, hd.fld.touch hs.tc (fun b hb e => e.elim (fun e => h2 (by rw [← e]; exact hb)) (fun e => h3 b hb e)), hs.at', hs.good, by rw [hs.new]; exact hr.put hs.lo hs.hi, fun k' => ?_, ?_, hs.fresh, h2, hmt⟩, fun b hb => ?_, ?_⟩
  · rw [hs.new]
    by_cases e : k' = k
    · subst e
      simp [hp.same]
    · rw [hp.other k' e, ← h.mem k', hs.old]
      simp [e]
  · have e1 := hp.len
    have e2 := h.len
    rw [hno] at e1
    rw [hs.old] at e2
    rw [hs.new, e1, ← e2]
    simp
    omega
  · rcases hb with e | e | e
    · exact .inl (.inl e)
    · exact (hs.bl b e).imp (fun e => .inr (.inl e)) (fun e => by omega)
    · exact (hd.blk b e).imp (fun e => .inr (.inr e)) id
  · refine (hd.tc.mono (fun x _ e => e.elim .inl (fun e => .inr (.inr e)))).trans hs.tc (fun x _ e => e.elim .inl (fun e => .inr (.inl e)))

theorem next_del {w w' w'' : World} {S : Nat} {t t' : Tr} {m m' : Value} {p p' sz : Int} {M M' : List (Key × Value)} {k : Key} {u : Value} {U V : List Key} (h : St w S t m p sz M) (hd : MapDone S m t.ptr (.int .i64 (t.flat.length : Int)) (.int .i64 sz) M' w m' p' w')
    (hp : Dels M k M') (hyes : look M k = some u) (hs : SetCut S t k m' (.int .i64 p') (.int .i64 sz) w' t' U V w'') : StNext S t m w M' t' m' p' sz w'' := by
  obtain ⟨h1, h2, h3⟩ := h.mapped hd
  have hr := h.rise
  rw [hs.old] at hr
  refine ⟨⟨hs.row, hd.pk, hd.fld.touch hs.tc (fun b hb e => e.elim (fun e => h2 (by rw [← e]; exact hb)) (fun e => h3 b hb e)), hs.at', hs.good, by rw [hs.new]; exact hr.take, fun k' => ?_, ?_, hs.fresh, h2, fun b hb e => h3 b hb (hs.bl b e)⟩, fun b hb => ?_, ?_⟩
  · rw [hs.new]
    by_cases e : k' = k
    · subst e
      rw [hp.same]
      simp
      have := hr.not_mem
      simpa using this
    · rw [hp.other k' e, ← h.mem k', hs.old]
      simp [e]
  · have e1 := hp.len
    have e2 := h.len
    rw [hyes] at e1
    rw [hs.old] at e2
    rw [hs.new]
    simp at e1 e2 ⊢
    omega
  · rcases hb with e | e | e
    · exact .inl (.inl e)
    · exact .inl (.inr (.inl (hs.bl b e)))
    · exact (hd.blk b e).imp (fun e => .inr (.inr e)) id
  · refine (hd.tc.mono (fun x _ e => e.elim .inl (fun e => .inr (.inr e)))).trans hs.tc (fun x _ e => e.elim .inl (fun e => .inr (.inl e)))
end Go.Proofs.Ybulkbhty.Tree
