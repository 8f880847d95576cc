import Derived.Test.YbulkeipwIdx
import Derived.Deep.RegionLaw
import Derived.Lib.SliceRun
namespace Go.Proofs.Ybulkeipw
open Go.RowKit
set_option linter.unusedVariables false

theorem Blk.setCells {g : Nat} {T : TypeId} : ∀ (vs : List Value) (o : Nat) {w : World} {cur : Array Value}, Blk w g cur T →
    ∃ cur', Blk (w.setCells g o vs) g cur' T ∧ cur'.size = cur.size ∧ ∀ j, j < cur.size → cur'[j]? = if o ≤ j ∧ j < o + vs.length then vs[j - o]? else cur[j]?
  | [], o, w, cur, h => ⟨cur, h, rfl, fun j hj => by simp; omega⟩
  | v :: vs, o, w, cur, h => by
    obtain ⟨cur', h1, h2, h3⟩ := Blk.setCells vs (o + 1) (h.setCell o v)
    refine ⟨cur', h1, by simpa using h2, fun j hj => ?_⟩
    rw [h3 j (by simpa using hj)]
    by_cases e : o = j
    · subst e
      rw [if_neg (by omega), if_pos (by simp)]
      simp [hj]
    · by_cases e2 : o + 1 ≤ j ∧ j < o + 1 + vs.length
      · rw [if_pos e2, if_pos (by simp; omega)]
        obtain ⟨q, rfl⟩ : ∃ q, j = o + 1 + q := ⟨j - (o + 1), by omega⟩
        simp [show o + 1 + q - o = q + 1 by omega]
      · rw [if_neg e2, if_neg (by simp; omega)]
        simp [e]
theorem Fr.setCells {S : Nat → Prop} {a : World} {g : Nat} (hg : S g) : ∀ (vs : List Value) (o : Nat) {w : World}, Fr S a w → Fr S a (w.setCells g o vs)
  | [], _, _, h => h
  | v :: vs, o, _, h => Fr.setCells hg vs (o + 1) (h.setCell ⟨g, o, none⟩ v (fun _ => hg))

theorem ownS_cells {w : World} {g cap : Nat} {ss : List ByteArray} {cur : Array Value} (hb : Blk w g cur 9) (h1 : cur.size = cap) (h2 : ss.length ≤ cap) (h3 : cap ≤ maxLen) (h4 : ∀ j, j < ss.length → cur[j]? = some (.string (ss.getD j ByteArray.empty))) : OwnS w g cap ss := by
  refine ⟨cur, hb, h1, h2, h3, ?_⟩
  apply List.ext_getElem?
  intro j
  by_cases hj : j < ss.length
  · simp only [List.getElem?_take, hj, if_true, List.getElem?_map, Array.getElem?_toList, h4 j hj]
    simp [List.getD, hj]
  · simp only [List.getElem?_take, hj, if_false, List.getElem?_map]
    simp [List.getElem?_eq_none (Nat.le_of_not_lt hj)]

set_option maxHeartbeats 4000000 in
set_option maxRecDepth 1000000 in
/-- slices.Delete 39, in place -/
theorem delete_any {w : World} {g cap i j : Nat} {ss : List ByteArray} (ho : OwnS w g cap ss) (hn : ss.length ≤ 100000) (hij : i < j) (hj : j ≤ ss.length) :
    Calls Yba.prog 39 #[.slice (some ⟨g, 0, none⟩) ss.length cap, .int .i64 i, .int .i64 j] w fun e w' => e = .returned (.slice (some ⟨g, 0, none⟩) (ss.take i ++ ss.drop j).length cap) ∧ OwnS w' g cap (ss.take i ++ ss.drop j) ∧ Fr (fun x => x = g) w w' := by
  obtain ⟨i0, hi0, hz0, hz1, hz2⟩ := info_parts Yba.info9
  have hrow := ho.row
  obtain ⟨cur, hb, hcs, hcl, hcm, _⟩ := ho
  have hm : cap ≤ 9223372036854775807 := by unfold maxLen at hcm; omega
  obtain ⟨n, hnn⟩ : ∃ n, n = ss.length := ⟨_, rfl⟩
  rw [← hnn] at hn hj hcl ⊢
  obtain ⟨news, hnews⟩ : ∃ news, news = (ss.drop j).map Value.string := ⟨_, rfl⟩
  have hlen : news.length = n - j := by rw [hnews]; simp [hnn]
  have hget : ∀ t, t < n - j → news[t]? = some (.string (ss.getD (j + t) ByteArray.empty)) := by
    intro t ht
    rw [hnews, List.getElem?_map, List.getElem?_drop]
    simp [List.getD, show j + t < ss.length by omega]
  have hcell : ∀ t, t < n → w.cell? ⟨g, t, none⟩ = some (.string (ss.getD t ByteArray.empty)) := fun t ht => by have := hrow t (by omega); rwa [Nat.zero_add] at this
  obtain ⟨A, hA, hsrc⟩ : ∃ A : Addr, (if cap = j then some (⟨g, 0, none⟩ : Addr) else some ⟨g, j, none⟩) = some A ∧ Hid (∀ t u, news[t]? = some u → w.drew.cell? (A.add t) = some u) := by
    by_cases h : cap = j
    · refine ⟨⟨g, 0, none⟩, by simp [h], fun t u hu => ?_⟩
      have h0 : news.length = 0 := by rw [hlen]; omega
      rw [List.length_eq_zero_iff.1 h0] at hu
      simp at hu
    · refine ⟨⟨g, j, none⟩, by simp [h], fun t u hu => ?_⟩
      have ht : t < n - j := by
        have := (List.getElem?_eq_some_iff.1 hu).1
        rwa [hlen] at this
      rw [hget t ht] at hu
      rw [Addr.add_lit]
      exact (hcell (j + t) (by omega)).trans hu
  have s1 : Hid (news.length = (n - j) * 1) := by rw [Nat.mul_one]; exact hlen
  have s2 : Hid (∀ u ∈ news, u.oneCell' = true) := by
    intro u hu
    rw [hnews] at hu
    obtain ⟨x, _, rfl⟩ := List.mem_map.1 hu
    rfl
  have s3 : Hid (∀ t, t < news.length → (w.drew.cell? ⟨g, 0 + i * 1 + t, none⟩).isSome = true ∧ w.drew.frozen? ⟨g, 0 + i * 1 + t, none⟩ = false) := by
    intro t ht
    rw [hlen] at ht
    rw [Nat.mul_one, Nat.zero_add]
    exact ⟨by show (w.cell? _).isSome = true; rw [hcell (i + t) (by omega)]; rfl, hb.frozen _⟩
  obtain ⟨W1, hW1⟩ : ∃ W1, W1 = w.drew.setCells g (0 + i * 1) news := ⟨_, rfl⟩
  obtain ⟨cur1, hb1, hc1, hg1⟩ := Blk.setCells news i (w := w.drew) (cur := cur) (T := 9) hb
  have hW1' : W1 = w.drew.setCells g i news := by rw [hW1, Nat.mul_one, Nat.zero_add]
  rw [← hW1'] at hb1
  have hf1 : Fr (fun x => x = g) w W1 := by rw [hW1']; exact Fr.setCells (S := fun x => x = g) (g := g) rfl news i (Fr.refl _ w).drew
  have hcl1 : ∀ ty, (Builtin.clear_ #[22] ty #[.slice (some ⟨g, i + (n - j), none⟩) (n - (i + (n - j))) (cap - (i + (n - j)))]).run Yba.prog W1 = .ok (.tuple #[]) (W1.setCells g (i + (n - j)) (List.replicate (n - (i + (n - j))) (.string E0))) :=
    fun ty => Lib.run_clear_slice W1 _ _ ty _ Yba.underlying22 zero9 rfl rfl g (i + (n - j)) _ _ (by omega) (fun t ht => by rw [hb1.cell]; simp [show i + (n - j) + t < cur1.size by omega]) (fun t ht => hb1.frozen _)
  obtain ⟨cur2, hb2, hc2, hg2⟩ := Blk.setCells (List.replicate (n - (i + (n - j))) (Value.string E0)) (i + (n - j)) hb1
  have hf2 := Fr.setCells (S := fun x => x = g) (g := g) rfl (List.replicate (n - (i + (n - j))) (Value.string E0)) (i + (n - j)) hf1
  have hlen2 : (ss.take i ++ ss.drop j).length = i + (n - j) := by simp; omega
  have hown : OwnS (W1.setCells g (i + (n - j)) (List.replicate (n - (i + (n - j))) (.string E0))) g cap (ss.take i ++ ss.drop j) := by
    refine ownS_cells hb2 (by omega) (by omega) hcm (fun t ht => ?_)
    rw [hlen2] at ht
    rw [hg2 t (by omega), if_neg (by omega), hg1 t (by omega)]
    by_cases h : t < i
    · rw [if_neg (by omega), ← hb.cell, hcell t (by omega)]
      rw [List.getD_eq_getElem?_getD, List.getD_eq_getElem?_getD, List.getElem?_append_left (by simp; omega)]
      simp [h]
    · rw [if_pos (by omega), hget (t - i) (by omega)]
      rw [List.getD_eq_getElem?_getD, List.getD_eq_getElem?_getD, List.getElem?_append_right (by simp; omega)]
      simp [show min i ss.length = i by omega, show t - i < ss.length - j by omega, show j + (t - i) < ss.length by omega]
  have HO := hide hown
  have HF := hide hf2
  have HW : Hid (W1 = w.drew.setCells g (0 + i * 1) news) := hW1
  have HL := hide hlen2
  have hic : i ≤ cap := by omega
  have hjc : j ≤ cap := by omega
  clear hown hf2 hW1 hW1' hb1 hc1 hg1 hb2 hc2 hg2 hf1 hcell hget hnews hlen hb hrow hlen2 hcm hcs hnn
  go_enter Yba.func39, Yba.ntmps39
  go_wp2_with fail
  go_region_law (refine step_append_room rfl (.tmp 22) (.tmp 25) 22 rfl 9 i0 1 Yba.underlying22 hi0 hz1 g 0 i cap (by simp [Act.eval, Act.put]) A (n - j) (cap - j) news (by simp [Act.eval, Act.put]) s1.out hsrc.out s2.out (by omega) s3.out ?_; rw [← HW.out])
  go_wp2
  go_ret
  exact ⟨by rw [HL.out]; rfl, HO.out, HF.out⟩
end Go.Proofs.Ybulkeipw
