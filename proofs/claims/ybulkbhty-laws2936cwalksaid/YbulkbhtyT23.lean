import Derived.Test.YbulkbhtyT11
import Derived.Maps.OwnSet
import Derived.Shelf.Lay
import Derived.Shelf.SlMaps.Copy
namespace Go.Proofs
open Go.Shelf
shelf_lay_g SlLaysX.n5 Slmp 5 at Yba 33 as Yba.copyMap
end Go.Proofs
namespace Go.Proofs.Ybulkbhty.Tree
open Go.RowKit Go.WideShapes Go.Lib Go.Maps

/-! ### The map of values, by what it holds at each name -/
theorem law9 : Keyed Yba.prog 9 := string_keyed Yba.underlying9
theorem zero25 (w : World) : (zeroValue 25).run Yba.prog w = .ok (.slice none 0 0) w := by kernel_rfl
def Rv (v : Value) : Option (DataW Value × List MemPlace) := some (.held v, [])
def kl (k : Key) : Lit := .string k.data.toList
theorem kl_ne {a b : Key} (h : a ≠ b) : kl a ≠ kl b := fun e => h (by
  have e1 : a.data.toList = b.data.toList := by injection e
  have e2 : a.data = b.data := by rw [← Array.toList_inj]; exact e1
  cases a; cases b; simp at e2; rw [e2])
theorem kl_key (k : Key) : WideAt.IsKeyLit (kl k) := trivial
theorem keyOf9 {k : Key} (h : k.size ≤ maxLen) : keyOf Yba.prog 9 (.string k) = some (kl k) := WideMaps.keyOf_string_mk Yba.underlying9 h

def look (M : List (Key × Value)) (k : Key) : Option Value := (M.find? fun p => decide (p.1 = k)).map (·.2)

def MapIs (w : World) (b : Nat) (M : List (Key × Value)) : Prop :=
  ∃ D, w.ownsMap Yba.prog 9 Rv b M.length D ∧ Maps.size D = M.length ∧ ∀ k : Key, Maps.has D (kl k) = (look M k).isSome ∧ ∀ z, D.atKey (kl k) z = ((look M k).map DataW.held).getD z

structure Puts (M : List (Key × Value)) (k : Key) (v : Value) (M' : List (Key × Value)) : Prop where
  same : look M' k = some v
  other : ∀ k', k' ≠ k → look M' k' = look M k'
  len : M'.length = if (look M k).isSome then M.length else M.length + 1
structure Dels (M : List (Key × Value)) (k : Key) (M' : List (Key × Value)) : Prop where
  same : look M' k = none
  other : ∀ k', k' ≠ k → look M' k' = look M k'
  len : M'.length + (if (look M k).isSome then 1 else 0) = M.length

theorem Touch.of_grown {w w' : World} {b : Nat} (h : w.grownBy w' (some b)) : Touch (· = b) w w' := ⟨h.os, h.tape, h.output, h.size, fun k hk hne => h.block k hk (fun e => hne (Option.some.inj e))⟩

theorem ownsMap_tight {w : World} {b n : Nat} {D : DataW Value} (h : w.ownsMap Yba.prog 9 Rv b n D) : w.ownsMap Yba.prog 9 Rv b (Maps.size D) D := by
  obtain ⟨es, clock, hb, F, hs, rfl⟩ := h
  exact ⟨es, clock, hb, F, by simp [Maps.size, length_sorted], rfl⟩

theorem MapIs.lt {w : World} {b : Nat} {M : List (Key × Value)} (h : MapIs w b M) : b < w.heap.size := by obtain ⟨D, hD, _⟩ := h; exact hD.lt
theorem MapIs.touch {w w' : World} {b : Nat} {M : List (Key × Value)} {F : Nat → Prop} (h : MapIs w b M) (ht : Touch F w w') (hF : ¬ F b) : MapIs w' b M := by
  have hlt := h.lt
  obtain ⟨D, ⟨es, clock, hb, r⟩, hr⟩ := h
  exact ⟨D, ⟨es, clock, (ht.block b hlt hF).trans hb, r⟩, hr⟩
theorem MapIs.made (w : World) : MapIs (w.alloc (.map #[] 0)) w.heap.size [] := ⟨_, World.ownsMap_made w _ _ _, rfl, fun _ => ⟨rfl, fun _ => rfl⟩⟩

theorem MapIs.get {w : World} {b : Nat} {M : List (Key × Value)} (h : MapIs w b M) {k : Key} (hk : k.size ≤ maxLen) : (Instr.lookup 52 (.map (some b)) (.string k) true).run Yba.prog w = .ok (.tuple #[(look M k).getD (.slice none 0 0), .bool (look M k).isSome]) w := by
  obtain ⟨D, hD, _, hat⟩ := h
  obtain ⟨v, ps, hrun, hv⟩ := hD.look_ok law9 Yba.underlying52 (zero25 w) (zd := .held (.slice none 0 0)) (zp := []) rfl (keyOf9 hk)
  rw [hrun, (hat k).1]
  have e : v = (look M k).getD (.slice none 0 0) := by
    have h2 := (hat k).2 (.held (.slice none 0 0))
    simp only [Rv, Option.some.injEq, Prod.mk.injEq] at hv
    rw [h2] at hv
    cases hl : look M k with
    | none => rw [hl] at hv; simp at hv; simp [hv]
    | some u => rw [hl] at hv; simp at hv; simp [hv]
  rw [e]
theorem MapIs.len {w : World} {b : Nat} {M : List (Key × Value)} (h : MapIs w b M) (ty : TypeId) : (Builtin.len_ #[52] ty #[.map (some b)]).run Yba.prog w = .ok (.int .i64 (M.length : Int)) w := by
  obtain ⟨D, hD, hs, _⟩ := h
  rw [hD.len Yba.underlying52 ty, hs]

theorem MapIs.store {w : World} {b : Nat} {M M' : List (Key × Value)} (h : MapIs w b M) {k : Key} {v : Value} (hk : k.size ≤ maxLen) (hn : M.length < maxLen) (hp : Puts M k v M') :
    ∃ w', (Instr.mapUpdate 52 (.map (some b)) (.string k) v).run Yba.prog w = .ok () w' ∧ MapIs w' b M' ∧ Touch (· = b) w w' := by
  obtain ⟨D, hD, hs, hat⟩ := h
  obtain ⟨w', hrun, hown, hturn⟩ := hD.store law9 Yba.underlying52 hn (val := v) (d := .held v) (ps := []) (keyOf9 hk) rfl
  have htidy := hD.tidy law9
  have hsz : Maps.size (D.put (kl k) (.held v)) = M'.length := by
    rw [Maps.size_put htidy, (hat k).1, hp.len, hs]
  refine ⟨w', hrun, ⟨_, by rw [← hsz]; exact ownsMap_tight hown, hsz, fun k' => ?_⟩, Touch.of_grown hturn.grown⟩
  by_cases e : k' = k
  · subst e
    rw [Maps.has_put_same hD.isMap (kl_key _), hp.same]
    exact ⟨rfl, fun z => by rw [Maps.atKey_put_same hD.isMap (kl_key _)]; rfl⟩
  · rw [Maps.has_put_other (kl_ne e), (hat k').1, hp.other k' e]
    exact ⟨rfl, fun z => by rw [Maps.atKey_put_other (kl_ne e), (hat k').2]⟩

theorem MapIs.drop {w : World} {b : Nat} {M M' : List (Key × Value)} (h : MapIs w b M) {k : Key} (hk : k.size ≤ maxLen) (hp : Dels M k M') (ty : TypeId) :
    ∃ w', (Builtin.delete_ #[52, 9] ty #[.map (some b), .string k]).run Yba.prog w = .ok (.tuple #[]) w' ∧ MapIs w' b M' ∧ Touch (· = b) w w' := by
  obtain ⟨D, hD, hs, hat⟩ := h
  obtain ⟨w', hrun, hown, hturn⟩ := hD.drop law9 Yba.underlying52 (keyOf9 hk) ty
  have htidy := hD.tidy law9
  have hsz : Maps.size (D.del (kl k)) = M'.length := by
    have e := Maps.size_del (k := kl k) htidy
    rw [(hat k).1, hs] at e
    have e2 := hp.len
    omega
  refine ⟨w', hrun, ⟨_, by rw [← hsz]; exact ownsMap_tight hown, hsz, fun k' => ?_⟩, Touch.of_grown hturn.grown⟩
  by_cases e : k' = k
  · subst e
    rw [Maps.has_del_same, hp.same]
    exact ⟨rfl, fun z => by rw [Maps.atKey_del_same]; rfl⟩
  · rw [Maps.has_del_other (kl_ne e), (hat k').1, hp.other k' e]
    exact ⟨rfl, fun z => by rw [Maps.atKey_del_other (kl_ne e), (hat k').2]⟩

theorem merge_empty {w : World} {b n : Nat} {D : DataW Value} (h : w.ownsMap Yba.prog 9 Rv b n D) : Lib.mergeD (.map []) D = D := by
  refine (Maps.merged_eq law9.one (Dout := D) (Dd := .map []) (Ds := D) (left := fun _ => false) ⟨fun k => ?_, fun k z => ?_⟩ (fun _ => rfl) (h.canon law9) ⟨[], rfl, List.Pairwise.nil, fun p hp => by simp at hp⟩ (h.canonK law9)).symm
  · simp [Maps.has]
  · cases hh : Maps.has D k with
    | true => simp
    | false => simp [Maps.atKey_of_not_has hh]; rfl

theorem copy_any (bd bs : Nat) (M : List (Key × Value)) (w : World) (hd : MapIs w bd []) (hs : MapIs w bs M) (hne : bd ≠ bs) (hroom : M.length ≤ maxLen) :
    Calls Yba.prog 33 #[.map (some bd), .map (some bs)] w fun e w' => e = .returned (.tuple #[]) ∧ MapIs w' bd M ∧ Touch (· = bd) w w' := by
  obtain ⟨D0, hD0, hz, hat0⟩ := hd
  obtain ⟨D, hD, hsz, hat⟩ := hs
  have e0 : D0 = .map [] := by
    obtain ⟨es, rfl⟩ := hD0.isMap
    simp [Maps.size] at hz
    rw [hz]
  subst e0
  refine (AnyX.maps_Copy Yba.copyMap law9 Rv bd bs 0 M.length (.map []) D w hD0 hD hne (by omega)).mono ?_
  rintro e w' ⟨rfl, h1, h2, h3⟩
  rw [merge_empty hD, hsz, Nat.zero_add] at h1
  exact ⟨rfl, ⟨D, h1, hsz, hat⟩, Touch.of_grown h3⟩

/-- The field 'm' of the map: nil as long as nothing was set. -/
def MapField (w : World) (v : Value) (M : List (Key × Value)) : Prop := (v = .map none ∧ M = []) ∨ ∃ b, v = .map (some b) ∧ MapIs w b M
def mblk : Value → List Nat
  | .map (some b) => [b]
  | _ => []
theorem MapField.touch {w w' : World} {v : Value} {M : List (Key × Value)} {F : Nat → Prop} (h : MapField w v M) (ht : Touch F w w') (hF : ∀ b ∈ mblk v, ¬ F b) : MapField w' v M := by
  rcases h with h | ⟨b, rfl, h⟩
  · exact .inl h
  · exact .inr ⟨b, rfl, h.touch ht (hF b (by simp [mblk]))⟩
theorem MapField.lt {w : World} {v : Value} {M : List (Key × Value)} (h : MapField w v M) : ∀ b ∈ mblk v, b < w.heap.size := by
  rcases h with ⟨rfl, _⟩ | ⟨b, rfl, h⟩
  · simp [mblk]
  · simpa [mblk] using h.lt
end Go.Proofs.Ybulkbhty.Tree
