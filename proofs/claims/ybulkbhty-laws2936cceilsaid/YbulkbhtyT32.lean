import Derived.Test.YbulkbhtyT30
import Derived.Deep.Strs
import Derived.Deep.Slices
import Derived.ProofKit
import Derived.OpenShut
import Derived.ChangeOld
import Derived.Below
import Derived.SizedLaws
import Derived.ShutString
namespace Go.Proofs.Ybulkbhty.Tree
open Go.ChangeShapes Go.WideShapes Go.ChangeAt Go.RowKit

theorem cells45 : Yba.prog.cellsOf 45 = 4 := by kernel_rfl
theorem cells5 : Yba.prog.cellsOf 5 = 1 := by kernel_rfl
theorem cells9 : Yba.prog.cellsOf 9 = 1 := by kernel_rfl
theorem cells4 : Yba.prog.cellsOf 4 = 1 := by kernel_rfl
theorem cells25 : Yba.prog.cellsOf 25 = 1 := by kernel_rfl
theorem bytes5 : Yba.prog.bytesOf 5 = 1 := by kernel_rfl

theorem list_four {α : Type} {l : List α} (h : l.length = 4) : ∃ a b c d, l = [a, b, c, d] := by
  match l, h with
  | [a, b, c, d], _ => exact ⟨a, b, c, d, rfl⟩

section
variable {H : Type} {enc : TypeId × Value → H} {P : Program} {w : World} {base : Nat} {spare : Nat → Bool} {held : Bool}

theorem trod_struct4 {t : TypeId} {f0 f1 f2 f3 : Field} {fuel : Nat} {cs : List Value} {x : DataW H × List MemPlace} (ht : P.underlying t = some (.struct #[f0, f1, f2, f3])) (h : DataW.trod enc P w base spare held fuel t cs = some x) :
    ∃ y0 y1 y2 y3 n, x.1 = .agg [y0.1, y1.1, y2.1, y3.1] ∧ cs.length = P.cellsOf t ∧ DataW.trod enc P w base spare held n f0.type ((cs.drop f0.offset).take (P.cellsOf f0.type)) = some y0 ∧
      DataW.trod enc P w base spare held n f1.type ((cs.drop f1.offset).take (P.cellsOf f1.type)) = some y1 ∧ DataW.trod enc P w base spare held n f2.type ((cs.drop f2.offset).take (P.cellsOf f2.type)) = some y2 ∧ DataW.trod enc P w base spare held n f3.type ((cs.drop f3.offset).take (P.cellsOf f3.type)) = some y3 := by
  obtain ⟨xs, n, _, rfl, hl, hlen, hf⟩ := DataW.trod_struct ht h
  match xs, hlen with
  | [y0, y1, y2, y3], _ => exact ⟨y0, y1, y2, y3, n, by simp, hl, by simpa using hf 0 f0 rfl, by simpa using hf 1 f1 rfl, by simpa using hf 2 f2 rfl, by simpa using hf 3 f3 rfl⟩

theorem mem_weightsAll {e : TypeId} {d : DataW H} {z : Nat} (hz : z ∈ d.weights P e) : ∀ {l : List (DataW H)}, d ∈ l → z ∈ DataW.weightsAll P e l
  | [], h => by simp at h
  | y :: l, h => by
    simp only [DataW.weightsAll, List.mem_append]
    rcases List.mem_cons.1 h with rfl | h
    · exact .inl hz
    · exact .inr (mem_weightsAll hz h)

theorem open_val {fuel : Nat} {v : Value} {x : DataW H × List MemPlace} (h : DataW.trod enc Yba.prog w base spare held fuel 25 [v] = some x) (hz : ∀ z ∈ x.1.weights Yba.prog 25, z ≤ reachBytes) :
    Val w v ∧ ∀ p n c, v = .slice p n c → n ≤ 140737488355328 := by
  rcases Deep.open_slice1 Yba.underlying25 cells5 h with ⟨hcs, _⟩ | ⟨ad, len, cap, m, n, V, D, Pl, hcs, _, hl, hcm, hm, hx, hV⟩
  · simp at hcs
    subst hcs
    exact ⟨Val.nil w, fun p n c e => by cases e; omega⟩
  · simp at hcs
    subst hcs
    have hlm : len ≤ m := by rw [hm]; split <;> omega
    have hn : len ≤ 140737488355328 := by
      have e := hz ((len + (m - len)) * Yba.prog.bytesOf 5) (by rw [hx]; simp [DataW.weights, Yba.underlying25])
      rw [bytes5] at e
      unfold reachBytes at e
      omega
    refine ⟨?_, fun p n c e => by cases e; exact hn⟩
    obtain ⟨F, hF⟩ := Deep.choose_lt (α := Int) (n := len) (p := fun i z => w.cell? (ad.add i) = some (.int .u8 z)) (fun i hi => by
      obtain ⟨h1, h2⟩ := hV i (by omega)
      obtain ⟨b, hb, _, _⟩ := DataW.trod_int Yba.underlying5 h2
      simp at hb
      exact ⟨b, by rw [h1, hb]⟩)
    refine ⟨some ad, len, cap, (List.range len).map F, rfl, by simp, by omega, Lib.BytesIn.of_cells fun i hi => ?_⟩
    rw [hF i hi]
    simp [hi]

theorem open_ops {fuel : Nat} {a : Option Addr} {N cap : Nat} {x : DataW H × List MemPlace} (h : DataW.trod enc Yba.prog w base spare held fuel 27 [.slice a N cap] = some x) (hz : ∀ z ∈ x.1.weights Yba.prog 27, z ≤ reachBytes) :
    N = 0 ∨ ∃ ob oo ky nm dl vl, a = some ⟨ob, oo, none⟩ ∧ OpsAt w ob oo N ky nm dl vl := by
  rcases Deep.open_slice Yba.underlying27 h with ⟨hcs, _⟩ | ⟨ad, len', cap', m, n, D, Pl, hcs, _, hl, _, hm, hx, hV⟩
  · simp at hcs
    exact .inl hcs.2.1
  · simp at hcs
    obtain ⟨rfl, rfl, rfl⟩ := hcs
    have hlm : N ≤ m := by rw [hm]; split <;> omega
    rw [cells45] at hV
    by_cases hN : N = 0
    · exact .inl hN
    obtain ⟨F, hF⟩ := Deep.choose_lt (α := Int × Key × Bool × Value) (n := N) (p := fun i z => w.cell? (ad.add (i * 4)) = some (.int .u8 z.1) ∧ w.cell? ((ad.add (i * 4)).add 1) = some (.string z.2.1) ∧ w.cell? ((ad.add (i * 4)).add 2) = some (.bool z.2.2.1) ∧ w.cell? ((ad.add (i * 4)).add 3) = some z.2.2.2 ∧ (0 ≤ z.1 ∧ z.1 ≤ 255) ∧ z.2.1.size ≤ 140737488355328 ∧ Val w z.2.2.2 ∧ ∀ p n c, z.2.2.2 = .slice p n c → n ≤ 140737488355328) (fun i hi => by
      obtain ⟨cs', h1, h2⟩ := hV i (by omega)
      obtain ⟨_, hlen, hc⟩ := World.cells?_some h1
      obtain ⟨y0, y1, y2, y3, n', hagg, _, e0, e1, e2, e3⟩ := trod_struct4 Yba.underlying45 h2
      obtain ⟨v0, v1, v2, v3, rfl⟩ := list_four hlen
      simp only [List.drop_zero, List.drop_succ_cons, List.take_succ_cons, List.take_zero, cells5, cells9, cells4, cells25] at e0 e1 e2 e3
      obtain ⟨z0, q0, _, w0⟩ := DataW.trod_int Yba.underlying5 e0
      obtain ⟨z1, q1, hq1, _⟩ := DataW.trod_string Yba.underlying9 e1
      obtain ⟨z2, q2, _⟩ := DataW.trod_bool Yba.underlying4 e2
      have w1 : z1.size ≤ 140737488355328 := by
        have hw : z1.data.toList.length ∈ (D i).weights Yba.prog 45 := by
          simp only at hagg
          rw [hagg]
          simp [DataW.weights, Yba.underlying45, DataW.weightsEach, hq1]
        have e := hz z1.data.toList.length (by
          rw [hx]
          simp only [DataW.weights, Yba.underlying27, List.mem_cons, List.mem_append]
          exact .inr (.inl (mem_weightsAll hw (List.mem_map.2 ⟨i, by simp [hi], rfl⟩))))
        unfold reachBytes at e
        have e2 : z1.data.toList.length = z1.size := by rw [Array.length_toList]; rfl
        omega
      obtain ⟨hv, hb⟩ := open_val e3 (fun z hzz => hz z (by
        have hw : z ∈ (D i).weights Yba.prog 45 := by
          simp only at hagg
          rw [hagg]
          simp [DataW.weights, Yba.underlying45, DataW.weightsEach, hzz]
        rw [hx]
        simp only [DataW.weights, Yba.underlying27, List.mem_cons, List.mem_append]
        exact .inr (.inl (mem_weightsAll hw (List.mem_map.2 ⟨i, by simp [hi], rfl⟩)))))
      simp at q0 q1 q2
      subst q0 q1 q2
      refine ⟨(z0, z1, z2, v3), ?_, ?_, ?_, ?_, bounds_u8 w0, w1, hv, hb⟩
      · have := hc 0 (by omega); simpa [Addr.add] using this
      · have := hc 1 (by omega); simpa using this
      · have := hc 2 (by omega); simpa using this
      · have := hc 3 (by omega); simpa using this)
    obtain ⟨b, off, spot⟩ := ad
    have hspot : spot = none := by simpa [Addr.add] using World.cell?_spot (hF 0 (by omega)).1
    subst hspot
    refine .inr ⟨b, off, fun i => (F i).1, fun i => (F i).2.1, fun i => (F i).2.2.1, fun i => (F i).2.2.2, rfl, ?_⟩
    refine ⟨fun j hj => ?_, fun j hj => ?_, fun j hj => ?_, fun j hj => ?_, fun j hj => (hF j hj).2.2.2.2.1, fun j hj => (hF j hj).2.2.2.2.2.1, fun j hj => (hF j hj).2.2.2.2.2.2.1, fun j hj => (hF j hj).2.2.2.2.2.2.2⟩
    · have := (hF j hj).1; simpa only [add_plain] using this
    · have := (hF j hj).2.1; simpa only [add_plain] using this
    · have := (hF j hj).2.2.1; simpa only [add_plain] using this
    · have := (hF j hj).2.2.2.1; simpa only [add_plain] using this
end

theorem build_of (W : World) (a : Option Addr) (N cap : Nat) (h : N = 0 ∨ ∃ ob oo ky nm dl vl, a = some ⟨ob, oo, none⟩ ∧ OpsAt W ob oo N ky nm dl vl) (hN : N ≤ 1024)
    (hz : ∀ ao c, Calls Yba.prog 8 #[.slice ao 0 c] W fun e w' => ∃ model M t m p sz, e = .returned (.tuple #[.pointer (some ⟨W.heap.size, 0, none⟩), model]) ∧ BI W W.heap.size w' model M t m p sz 0) :
    Calls Yba.prog 8 #[.slice a N cap] W fun e w' => ∃ model M t m p sz, e = .returned (.tuple #[.pointer (some ⟨W.heap.size, 0, none⟩), model]) ∧ BI W W.heap.size w' model M t m p sz N := by
  rcases h with rfl | ⟨ob, oo, ky, nm, dl, vl, rfl, hops⟩
  · exact hz a cap
  · exact build_any ob oo N cap ky nm dl vl W hops hN
end Go.Proofs.Ybulkbhty.Tree
