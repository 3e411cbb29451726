import Derived.Test.YbulkbhtkRows
import Derived.WalkKit
import Derived.WalkSpells
import Derived.WalkLawsBesides
import Derived.Deep.OwnRows
namespace Go.Proofs.Ybulkbhtk
open Go.RowKit

section
variable {P : Program} {w : World} {a : Addr} {m : Mode}
/-- A float is stored as any one-cell value is. -/
@[go_sem] theorem run_store_float (k : FloatKind) (b : Nat) : (store a (.float k b) m).run P w = stored P w a (.float k b) m := run_store P w a _ m rfl
end

/-- Only block g may have turned; no block has come or gone. -/
structure Only (g : Nat) (w w' : World) : Prop where
  os : w'.os = w.os
  tape : w'.tape = w.tape
  output : w'.output = w.output
  size : w'.heap.size = w.heap.size
  block : ∀ k, k ≠ g → w'.heap[k]? = w.heap[k]?

theorem Only.refl (g : Nat) (w : World) : Only g w w := ⟨rfl, rfl, rfl, rfl, fun _ _ => rfl⟩
theorem Only.setCell {g : Nat} {w w' : World} (h : Only g w w') (o : Nat) (v : Value) : Only g w (w'.setCell ⟨g, o, none⟩ v) :=
  ⟨h.os, h.tape, h.output, by simpa [World.setCell] using h.size, fun k hk => (Below.heap_setCell _ _ _ _ hk).trans (h.block k hk)⟩
theorem Only.cell {g : Nat} {w w' : World} (h : Only g w w') {a : Addr} (ha : a.block ≠ g) : w'.cell? a = w.cell? a := World.cell?_of_block (w := w) (h.block _ ha)
theorem Only.row {g : Nat} {w w' : World} (h : Only g w w') {b : Nat} (hb : b ≠ g) {t n f} (r : w.rowIs b t n f) : w'.rowIs b t n f := r.of_block (h.block _ hb)
theorem Only.below {g B : Nat} {w w' : World} (h : Only g w w') (hB : B ≤ g) : Below B w w' :=
  ⟨h.os, h.tape, h.output, by rw [h.size]; exact Nat.le_refl _, fun k hk => h.block k (by omega)⟩

/-- What spread leaves in v[j]. -/
def spr (O : Nat → Int) (S V : Nat → Nat) (k j : Nat) : Nat := if j < k ∧ 0 ≤ O j then S (O j).toNat else V j

theorem spr_row {w : World} {g n k : Nat} {O : Nat → Int} {S V : Nat → Nat} (h : w.rowIs g 31 n (fun j => .float .f64 (spr O S V k j))) (hO : 0 ≤ O k) :
    (w.setCell ⟨g, k, none⟩ (.float .f64 (S (O k).toNat))).rowIs g 31 n (fun j => .float .f64 (spr O S V (k + 1) j)) := by
  refine (h.set k _).congr fun j _ => ?_
  by_cases e : j = k
  · subst e; simp [spr, hO]
  · simp only [if_neg e, spr]
    by_cases hj : j < k
    · simp [hj, Nat.lt_succ_of_lt hj]
    · simp [hj, show ¬ j < k + 1 by omega]

theorem spr_skip {w : World} {g n k : Nat} {O : Nat → Int} {S V : Nat → Nat} (h : w.rowIs g 31 n (fun j => .float .f64 (spr O S V k j))) (hO : O k < 0) :
    w.rowIs g 31 n (fun j => .float .f64 (spr O S V (k + 1) j)) := by
  refine h.congr fun j _ => ?_
  simp only [spr]
  by_cases e : j = k
  · subst e; simp [show ¬ 0 ≤ O j by omega]
  · by_cases hj : j < k
    · simp [hj, Nat.lt_succ_of_lt hj]
    · simp [hj, show ¬ j < k + 1 by omega]

set_option maxHeartbeats 400000 in
theorem spread_any (h gO gS gV n m : Nat) (O : Nat → Int) (S V : Nat → Nat) (w : World) (hn : n ≤ 1024) (_hm : m ≤ 1024)
    (hbox : w.cell? ⟨h, 1, none⟩ = some (.slice (some ⟨gO, 0, none⟩) n n)) (rO : w.rowIs gO 3 n (fun j => .int .i64 (O j))) (rS : w.rowIs gS 31 m (fun j => .float .f64 (S j))) (rV : w.rowIs gV 31 n (fun j => .float .f64 (V j)))
    (hO : ∀ j, j < n → -1 ≤ O j ∧ O j < m) (d1 : gO ≠ gV) (d2 : gS ≠ gV) :
    Calls Yba.prog 5 #[.pointer (some ⟨h, 0, none⟩), .slice (some ⟨gS, 0, none⟩) m m, .slice (some ⟨gV, 0, none⟩) n n] w fun e w' => e = .returned (.tuple #[]) ∧ w'.rowIs gV 31 n (fun j => .float .f64 (spr O S V n j)) ∧ Only gV w w' := by
  go_enter Yba.func5, Yba.ntmps5
  go_wp2
  go_loopw [13] (fun i wr => ∃ k : Nat, k ≤ n ∧ i = .int .i64 k ∧ wr.rowIs gV 31 n (fun j => .float .f64 (spr O S V k j)) ∧ Only gV w wr) (fun i _ => n - (intOf i).toNat)
  case atStart => exact ⟨0, Nat.zero_le _, rfl, rV.congr (fun j _ => by simp [spr]), Only.refl _ _⟩
  case round =>
    obtain ⟨k, hk, rfl, hr, ho⟩ := hrel
    by_cases hlt : k < n
    · have c1 : wr.cell? ⟨gO, k, none⟩ = some (.int .i64 (O k)) := (ho.cell d1).trans (rO.cell hlt)
      have c2 : wr.cell? ⟨gV, k, none⟩ = some (.float .f64 (spr O S V k k)) := hr.cell hlt
      have f2 : wr.frozen? ⟨gV, k, none⟩ = false := hr.frozen k
      by_cases hp : 0 ≤ O k
      · have hb := (hO k hlt).2
        have c3 : wr.cell? ⟨gS, (O k).toNat, none⟩ = some (.float .f64 (S (O k).toNat)) := (ho.cell d2).trans (rS.cell (by omega))
        have R := spr_row hr hp
        have R2 := ho.setCell k (.float .f64 (S (O k).toNat))
        clear hr rO rS rV hO
        go_wp2
        go_roundw
        case rel => exact ⟨k + 1, by omega, by go_num, R, R2⟩
        case measure => simp [intOf]; omega
      · have R := spr_skip hr (by omega : O k < 0)
        clear hr rO rS rV hO
        go_wp2
        go_roundw
        case rel => exact ⟨k + 1, by omega, by go_num, R, ho⟩
        case measure => simp [intOf]; omega
    · go_wp2
      go_end0
      obtain rfl : k = n := by omega
      exact ⟨rfl, hr, ho⟩

end Go.Proofs.Ybulkbhtk
