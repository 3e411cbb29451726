import Derived.Test.YbulkbhtyT26
namespace Go.Proofs.Ybulkbhty.Tree
open Go.RowKit Go.WideShapes Go.Lib Go.Maps

def firstVal (M : List (Key × Value)) (c : Option Key) : Value := match c with
  | some y => .tuple #[.string y, (look M y).getD (.slice none 0 0), .bool true]
  | none => .tuple #[.string ⟨#[]⟩, .slice none 0 0, .bool false]

theorem ceil_mem_of {L : List Key} {k y : Key} (h : ceilOf L k = some y) : y ∈ L := List.mem_of_find?_eq_some h

set_option maxHeartbeats 1000000 in
theorem first_any (S : Nat) (t : Tr) (m : Value) (p sz : Int) (M : List (Key × Value)) (k : Key) (w : World) (h : St w S t m p sz M) (hlen : M.length ≤ 1024) (hsz : ∀ y ∈ t.flat, y.size ≤ maxLen) :
    Calls Yba.prog 9 #[.pointer (some ⟨S, 0, none⟩), .string k] w fun e w' => e = .returned (firstVal M (ceilOf t.flat k)) ∧ w' = w := by
  have CE := ceil_set S t k w h.row.c2 h.tree h.good h.rise (by have := h.len; omega)
  have hfin : Hid (∀ c, c = ceilOf t.flat k → firstVal M c = firstVal M (ceilOf t.flat k)) := fun c e => by rw [e]
  cases hc : ceilOf t.flat k with
  | none =>
    rw [hc] at CE
    simp only [ceilVal, Option.getD_none, Option.isSome_none] at CE
    clear hc
    go_enter Yba.func9, Yba.ntmps9
    go_wp2_with (go_at_call 17; refine CE.mono ?_; rintro e w' ⟨rfl, rfl⟩)
    go_ret3
    exact ⟨rfl, rfl⟩
  | some y =>
    have GT := get_any S m M y w h.row.c0 h.fld (hsz y (ceil_mem_of hc))
    rw [hc] at CE
    simp only [ceilVal, Option.getD_some, Option.isSome_some] at CE
    clear hc hsz
    go_enter Yba.func9, Yba.ntmps9
    go_wp2_with (first | (go_at_call 17; refine CE.mono ?_; rintro e w' ⟨rfl, rfl⟩) | (go_at_call 18; refine GT.mono ?_; rintro e w' ⟨rfl, rfl⟩))
    go_ret3
    exact ⟨rfl, rfl⟩

theorem newItemSet_any (w : World) : Calls Yba.prog 13 #[] w fun e w' => e = .returned (.pointer (some ⟨w.heap.size, 0, none⟩)) ∧ St w' w.heap.size .nil (.map none) 0 0 [] ∧ Touch (fun _ => False) w w' := by
  go_enter Yba.func13, Yba.ntmps13
  go_wp2_with fail
  go_ret
  refine ⟨rfl, ⟨?_, by omega, .inl ⟨rfl, rfl⟩, trivial, trivial, List.Pairwise.nil, fun k => by simp [Tr.flat, look], rfl, by simp [Tr.blocks], by simp [mblk], by simp [mblk]⟩, (Touch.refl (fun _ => False) w).alloc _⟩
  exact World.rowIs_alloc w _ 60 _ fun i hi => by
    have hi6 : i < 6 := hi
    rcases show i = 0 ∨ i = 1 ∨ i = 2 ∨ i = 3 ∨ i = 4 ∨ i = 5 by omega with rfl | rfl | rfl | rfl | rfl | rfl <;> rfl

/-! ### The name of an operation -/
def nameOf (key : Int) (name : Key) : Key :=
  if key % 8 = 0 then ⟨#[]⟩ else if key % 8 = 1 then ⟨#[97]⟩ else if key % 8 = 2 then ⟨#[97, 98]⟩ else if key % 8 = 3 then ⟨#[98]⟩ else if key % 8 = 4 then ⟨#[97, 0]⟩ else if key % 8 = 5 then ⟨#[255]⟩ else name
theorem nameOf_size {key : Int} {name : Key} (h : name.size ≤ maxLen) : (nameOf key name).size ≤ maxLen := by
  unfold nameOf
  have h1 : (⟨#[]⟩ : Key).size ≤ maxLen := by decide
  have h2 : (⟨#[97]⟩ : Key).size ≤ maxLen := by decide
  have h3 : (⟨#[97, 98]⟩ : Key).size ≤ maxLen := by decide
  have h4 : (⟨#[98]⟩ : Key).size ≤ maxLen := by decide
  have h5 : (⟨#[97, 0]⟩ : Key).size ≤ maxLen := by decide
  have h6 : (⟨#[255]⟩ : Key).size ≤ maxLen := by decide
  repeat' split
  all_goals assumption

set_option maxHeartbeats 1000000 in
theorem cname_any (key : Int) (name : Key) (del : Bool) (v : Value) (w : World) (hk : 0 ≤ key ∧ key ≤ 255) : Calls Yba.prog 14 #[.agg #[.int .u8 key, .string name, .bool del, v]] w fun e w' => e = .returned (.string (nameOf key name)) ∧ Touch (fun _ => False) w w' := by
  have ht : Touch (fun _ => False) w (w.alloc (.cells #[.int .u8 key, .string name, .bool del, v] 45)) := (Touch.refl (fun _ => False) w).alloc _
  go_enter Yba.func14, Yba.ntmps14
  go_wp2_with fail
  all_goals go_ret
  all_goals (refine ⟨?_, ht⟩; simp_all [nameOf]; done)
end Go.Proofs.Ybulkbhty.Tree
