import Derived.Test.YbulkbhtyT2
import Derived.Shelf.SlicesE.Delete
namespace Go.Proofs.Ybulkbhty.Tree
open Go.RowKit Go.WideShapes Go.Lib

theorem zero9 (w : World) : (zeroValue 9).run Yba.prog w = .ok (.string ⟨#[]⟩) w := by kernel_rfl
theorem zero55 (w : World) : (zeroValue 55).run Yba.prog w = .ok (.pointer none) w := by kernel_rfl
theorem parts9 : ∃ i, Yba.prog.info? 9 = some i ∧ i.size = 1 := by
  obtain ⟨i, hi, hz⟩ := Option.map_eq_some_iff.1 size9
  exact ⟨i, hi, hz⟩
theorem parts55 : ∃ i, Yba.prog.info? 55 = some i ∧ i.size = 1 := by
  obtain ⟨i, hi, hz⟩ := Option.map_eq_some_iff.1 size55
  exact ⟨i, hi, hz⟩

set_option maxHeartbeats 4000000 in
set_option maxRecDepth 100000 in
theorem deleteStr (b cap i : Nat) (xs : List Value) (w : World) (hV : Vec w b 9 cap xs) (hi : i < xs.length) (h1 : ∀ x ∈ xs, x.oneCell' = true) :
    Calls Yba.prog 40 #[.slice (some ⟨b, 0, none⟩) xs.length cap, .int .i64 (i : Int), .int .i64 ((i : Int) + 1)] w fun e w' =>
      e = .returned (.slice (some ⟨b, 0, none⟩) (xs.length - 1) cap) ∧ Vec w' b 9 cap (xs.take i ++ xs.drop (i + 1)) ∧ Touch (· = b) w w' := by
  obtain ⟨n, hn⟩ : ∃ n, n = xs.length := ⟨_, rfl⟩
  have hcap : n ≤ cap := by obtain ⟨f, _, hl, _⟩ := hV; omega
  rw [← hn] at hi ⊢
  obtain ⟨i0, hi0, hz1⟩ := parts9
  obtain ⟨news, hnews⟩ : ∃ news, news = xs.drop (i + 1) := ⟨_, rfl⟩
  have hlen : news.length = n - (i + 1) := by rw [hnews]; simp [hn]
  obtain ⟨A, hA, hsrc⟩ : ∃ A : Addr, (if cap = i + 1 then some (⟨b, 0, none⟩ : Addr) else some ⟨b, i + 1, none⟩) = some A ∧ Hid (∀ t u, news[t]? = some u → w.drew.cell? (A.add t) = some u) := by
    by_cases h : cap = i + 1
    · refine ⟨⟨b, 0, none⟩, by simp [h], fun t u hu => ?_⟩
      have h0 : news.length = 0 := by rw [hlen]; omega
      rw [List.length_eq_zero_iff.1 h0] at hu
      simp at hu
    · refine ⟨⟨b, i + 1, none⟩, by simp [h], fun t u hu => ?_⟩
      rw [Addr.add_lit]
      rw [hnews, List.getElem?_drop] at hu
      exact hV.cell hu
  have s1 : Hid (news.length = (n - (i + 1)) * 1) := by rw [Nat.mul_one]; exact hlen
  have s2 : Hid (∀ u ∈ news, u.oneCell' = true) := fun u hu => h1 u (by rw [hnews] at hu; exact List.mem_of_mem_drop hu)
  have s3 : Hid (∀ t, t < news.length → (w.drew.cell? ⟨b, 0 + i * 1 + t, none⟩).isSome = true ∧ w.drew.frozen? ⟨b, 0 + i * 1 + t, none⟩ = false) := fun t ht => by
    rw [hlen] at ht
    exact ⟨hV.some (by omega), hV.frozen _⟩
  obtain ⟨W1, hW1⟩ : ∃ W1, W1 = w.drew.setCells b (0 + i * 1) news := ⟨_, rfl⟩
  have T1 : Touch (· = b) w W1 := by rw [hW1]; exact ((Touch.refl (· = b) w).drew).setCells (fun _ => rfl) _ _
  obtain ⟨f, hr, hl, hf⟩ := hV
  have r1 := row_setCells (w := w.drew) hr news (0 + i * 1)
  rw [← hW1] at r1
  have hcl : ∀ ty, (Builtin.clear_ #[70] ty #[.slice (some ⟨b, i + (n - (i + 1)), none⟩) (n - (i + (n - (i + 1)))) (cap - (i + (n - (i + 1))))]).run Yba.prog W1 = .ok (.tuple #[]) (W1.setCells b (i + (n - (i + 1))) (List.replicate (n - (i + (n - (i + 1)))) (.string ⟨#[]⟩))) := fun ty =>
    Lib.run_clear_slice W1 _ _ ty _ Yba.underlying70 zero9 rfl rfl b _ _ _ (by omega) (fun t ht => by rw [r1.cell (by omega)]; rfl) (fun t ht => r1.frozen _)
  have r2 := row_setCells r1 (List.replicate (n - (i + (n - (i + 1)))) (.string ⟨#[]⟩)) (i + (n - (i + 1)))
  have RR : Vec (W1.setCells b (i + (n - (i + 1))) (List.replicate (n - (i + (n - (i + 1)))) (.string ⟨#[]⟩))) b 9 cap (xs.take i ++ xs.drop (i + 1)) := by
    refine ⟨_, r2, by simp; omega, fun j u hj => ?_⟩
    have hjl : j < n - 1 := by
      have := (List.getElem?_eq_some_iff.1 hj).1
      simp at this
      omega
    rw [if_neg (by simp; omega)]
    by_cases hj1 : j < i
    · rw [if_neg (by omega)]
      rw [List.getElem?_append_left (by simp; omega), List.getElem?_take_of_lt hj1] at hj
      exact hf j u hj
    · rw [List.getElem?_append_right (by simp; omega), show (xs.take i).length = i by simp; omega, ← hnews] at hj
      rw [if_pos (by omega), List.getD_eq_getElem?_getD, show j - (0 + i * 1) = j - i by omega, hj]
      rfl
  have TT : Touch (· = b) w (W1.setCells b (i + (n - (i + 1))) (List.replicate (n - (i + (n - (i + 1)))) (.string ⟨#[]⟩))) := T1.setCells (fun _ => rfl) _ _
  have hW : Hid (W1 = w.drew.setCells b (0 + i * 1) news) := hW1
  have hic : i ≤ cap := by omega
  have hjc : i + 1 ≤ cap := by omega
  have hin : i ≤ n := by omega
  have hjn : i + 1 ≤ n := by omega
  have mixed : Yba.prog.follows .mixedOrders = true := by kernel_rfl
  have hb1 : (0 : Int) ≤ (i : Int) + 1 := by omega
  have htn : ((i : Int) + 1).toNat = i + 1 := by omega
  have hjni : (i : Int) + 1 ≤ (n : Int) := by omega
  have RR' : Hid _ := RR
  have TT' : Hid _ := TT
  clear hW1 hnews hlen r1 r2 hf hr T1 RR TT hn h1 hl
  go_enter Yba.func40, Yba.ntmps40
  go_wp2_with fail
  go_region_law_o (refine step_append_room rfl (.tmp 22) (.tmp 25) 70 rfl 9 i0 1 Yba.underlying70 hi0 hz1 b 0 i cap (by simp [Act.eval, Act.put]) A (n - (i + 1)) (cap - (i + 1)) news (by simp [Act.eval, Act.put]) s1.out hsrc.out s2.out (by omega) s3.out ?_; rw [← hW.out])
  go_wp2
  go_ret
  exact ⟨by rw [show n - 1 = i + (n - (i + 1)) by omega]; rfl, RR'.out, TT'.out⟩

set_option maxHeartbeats 4000000 in
set_option maxRecDepth 100000 in
theorem deletePtr (b cap i : Nat) (xs : List Value) (w : World) (hV : Vec w b 55 cap xs) (hi : i < xs.length) (h1 : ∀ x ∈ xs, x.oneCell' = true) :
    Calls Yba.prog 51 #[.slice (some ⟨b, 0, none⟩) xs.length cap, .int .i64 (i : Int), .int .i64 ((i : Int) + 1)] w fun e w' =>
      e = .returned (.slice (some ⟨b, 0, none⟩) (xs.length - 1) cap) ∧ Vec w' b 55 cap (xs.take i ++ xs.drop (i + 1)) ∧ Touch (· = b) w w' := by
  obtain ⟨n, hn⟩ : ∃ n, n = xs.length := ⟨_, rfl⟩
  have hcap : n ≤ cap := by obtain ⟨f, _, hl, _⟩ := hV; omega
  rw [← hn] at hi ⊢
  obtain ⟨i0, hi0, hz1⟩ := parts55
  obtain ⟨news, hnews⟩ : ∃ news, news = xs.drop (i + 1) := ⟨_, rfl⟩
  have hlen : news.length = n - (i + 1) := by rw [hnews]; simp [hn]
  obtain ⟨A, hA, hsrc⟩ : ∃ A : Addr, (if cap = i + 1 then some (⟨b, 0, none⟩ : Addr) else some ⟨b, i + 1, none⟩) = some A ∧ Hid (∀ t u, news[t]? = some u → w.drew.cell? (A.add t) = some u) := by
    by_cases h : cap = i + 1
    · refine ⟨⟨b, 0, none⟩, by simp [h], fun t u hu => ?_⟩
      have h0 : news.length = 0 := by rw [hlen]; omega
      rw [List.length_eq_zero_iff.1 h0] at hu
      simp at hu
    · refine ⟨⟨b, i + 1, none⟩, by simp [h], fun t u hu => ?_⟩
      rw [Addr.add_lit]
      rw [hnews, List.getElem?_drop] at hu
      exact hV.cell hu
  have s1 : Hid (news.length = (n - (i + 1)) * 1) := by rw [Nat.mul_one]; exact hlen
  have s2 : Hid (∀ u ∈ news, u.oneCell' = true) := fun u hu => h1 u (by rw [hnews] at hu; exact List.mem_of_mem_drop hu)
  have s3 : Hid (∀ t, t < news.length → (w.drew.cell? ⟨b, 0 + i * 1 + t, none⟩).isSome = true ∧ w.drew.frozen? ⟨b, 0 + i * 1 + t, none⟩ = false) := fun t ht => by
    rw [hlen] at ht
    exact ⟨hV.some (by omega), hV.frozen _⟩
  obtain ⟨W1, hW1⟩ : ∃ W1, W1 = w.drew.setCells b (0 + i * 1) news := ⟨_, rfl⟩
  have T1 : Touch (· = b) w W1 := by rw [hW1]; exact ((Touch.refl (· = b) w).drew).setCells (fun _ => rfl) _ _
  obtain ⟨f, hr, hl, hf⟩ := hV
  have r1 := row_setCells (w := w.drew) hr news (0 + i * 1)
  rw [← hW1] at r1
  have hcl : ∀ ty, (Builtin.clear_ #[71] ty #[.slice (some ⟨b, i + (n - (i + 1)), none⟩) (n - (i + (n - (i + 1)))) (cap - (i + (n - (i + 1))))]).run Yba.prog W1 = .ok (.tuple #[]) (W1.setCells b (i + (n - (i + 1))) (List.replicate (n - (i + (n - (i + 1)))) (.pointer none))) := fun ty =>
    Lib.run_clear_slice W1 _ _ ty _ Yba.underlying71 zero55 rfl rfl b _ _ _ (by omega) (fun t ht => by rw [r1.cell (by omega)]; rfl) (fun t ht => r1.frozen _)
  have r2 := row_setCells r1 (List.replicate (n - (i + (n - (i + 1)))) (.pointer none)) (i + (n - (i + 1)))
  have RR : Vec (W1.setCells b (i + (n - (i + 1))) (List.replicate (n - (i + (n - (i + 1)))) (.pointer none))) b 55 cap (xs.take i ++ xs.drop (i + 1)) := by
    refine ⟨_, r2, by simp; omega, fun j u hj => ?_⟩
    have hjl : j < n - 1 := by
      have := (List.getElem?_eq_some_iff.1 hj).1
      simp at this
      omega
    rw [if_neg (by simp; omega)]
    by_cases hj1 : j < i
    · rw [if_neg (by omega)]
      rw [List.getElem?_append_left (by simp; omega), List.getElem?_take_of_lt hj1] at hj
      exact hf j u hj
    · rw [List.getElem?_append_right (by simp; omega), show (xs.take i).length = i by simp; omega, ← hnews] at hj
      rw [if_pos (by omega), List.getD_eq_getElem?_getD, show j - (0 + i * 1) = j - i by omega, hj]
      rfl
  have TT : Touch (· = b) w (W1.setCells b (i + (n - (i + 1))) (List.replicate (n - (i + (n - (i + 1)))) (.pointer none))) := T1.setCells (fun _ => rfl) _ _
  have hW : Hid (W1 = w.drew.setCells b (0 + i * 1) news) := hW1
  have hic : i ≤ cap := by omega
  have hjc : i + 1 ≤ cap := by omega
  have hin : i ≤ n := by omega
  have hjn : i + 1 ≤ n := by omega
  have mixed : Yba.prog.follows .mixedOrders = true := by kernel_rfl
  have hb1 : (0 : Int) ≤ (i : Int) + 1 := by omega
  have htn : ((i : Int) + 1).toNat = i + 1 := by omega
  have hjni : (i : Int) + 1 ≤ (n : Int) := by omega
  have RR' : Hid _ := RR
  have TT' : Hid _ := TT
  clear hW1 hnews hlen r1 r2 hf hr T1 RR TT hn h1 hl
  go_enter Yba.func51, Yba.ntmps51
  go_wp2_with fail
  go_region_law_o (refine step_append_room rfl (.tmp 22) (.tmp 25) 71 rfl 55 i0 1 Yba.underlying71 hi0 hz1 b 0 i cap (by simp [Act.eval, Act.put]) A (n - (i + 1)) (cap - (i + 1)) news (by simp [Act.eval, Act.put]) s1.out hsrc.out s2.out (by omega) s3.out ?_; rw [← hW.out])
  go_wp2
  go_ret
  exact ⟨by rw [show n - 1 = i + (n - (i + 1)) by omega]; rfl, RR'.out, TT'.out⟩

end Go.Proofs.Ybulkbhty.Tree
