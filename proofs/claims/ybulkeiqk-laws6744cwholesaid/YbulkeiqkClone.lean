import Derived.Test.YbulkeiqkEq
namespace Go.Proofs.Ybulkeiqk
open Go.ChangeShapes Go.WideShapes Go.ChangeAt Go.RowKit
set_option linter.unusedVariables false

theorem Yba.info23 : (Yba.prog.info? 23).map (fun i => (i.zero, i.size, i.bytes)) = some (some (.int .u32 0), 1, 4) := by kernel_rfl
theorem Yba.info3 : (Yba.prog.info? 3).map (fun i => (i.zero, i.size, i.bytes)) = some (some (.int .i64 0), 1, 8) := by kernel_rfl

/-- A row of numbers at (g, o), of n cells. -/
def RowAt (w : World) (k : IntKind) (g o n : Nat) (zs : List Int) : Prop := ∀ i, i < n → w.cell? ⟨g, o + i, none⟩ = some (.int k (zs.getD i 0))

theorem RowAt.news {w : World} {k : IntKind} {g o n : Nat} {zs : List Int} (h : RowAt w k g o n zs) (hz : zs.length = n) :
    ∀ j u, (zs.map (Value.int k))[j]? = some u → w.cell? ((⟨g, o, none⟩ : Addr).add j) = some u := by
  intro j u hu
  rw [List.getElem?_map, Option.map_eq_some_iff] at hu
  obtain ⟨v, hv, rfl⟩ := hu
  obtain ⟨hj, rfl⟩ := List.getElem?_eq_some_iff.1 hv
  rw [Addr.add_lit, h j (by omega)]
  simp [List.getD, hj]

theorem RowAt.alloc {w : World} {k : IntKind} {g o n : Nat} {zs : List Int} (h : RowAt w k g o n zs) (x : Obj) : RowAt (w.alloc x) k g o n zs := by
  intro i hi
  rw [World.cell?_alloc_lt _ _ _ (by have := World.block_lt_of_cell? _ _ (h i hi); exact this)]
  exact h i hi

theorem RowAt.below {w w' : World} {B : Nat} {k : IntKind} {g o n : Nat} {zs : List Int} (h : RowAt w k g o n zs) (hb : Below B w w') (hg : g < B) : RowAt w' k g o n zs := by
  intro i hi
  rw [hb.cell (p := ⟨g, o + i, none⟩) hg]
  exact h i hi

theorem RowAt.drewN {w : World} {k : IntKind} {g o n : Nat} {zs : List Int} (h : RowAt w k g o n zs) (q : Nat) : RowAt (w.drewN q) k g o n zs := h

/-- What is owned by a slice of numbers reads as a row. -/
theorem rowAt_of_owns {w : World} {base : Nat} {e : TypeId} {k : IntKind} {v : Value} {n : Nat} {zs : List Int} (h : w.ownsRow base e 1 v n (zs.map (Value.int k))) (hv : v ≠ .slice none 0 0) :
    ∃ g cap : Nat, v = .slice (some ⟨g, 0, none⟩) n cap ∧ base ≤ g ∧ g < w.heap.size ∧ n ≤ cap ∧ RowAt w k g 0 n zs := by
  have h' := h
  obtain ⟨hl, h1 | ⟨g, cap, cur, rfl, hb, hh, hnc, hcm, hcs, ht⟩⟩ := h
  · exact absurd h1.1 hv
  · refine ⟨g, cap, rfl, hb, lt_of_block hh, hnc, ?_⟩
    intro i hi
    have := h'.cellAt i (by omega)
    rw [Nat.zero_add, this]
    simp at hl
    simp [List.getD, show i < zs.length by omega]

/-- slices.Clone of a slice that is not nil. -/
theorem clone5 (g n cap : Nat) (zs : List Int) (w : World) (hn : n ≤ 100000) (hz : zs.length = n) (hc : RowAt w .u32 g 0 n zs) :
    Calls Yba.prog 5 #[.slice (some ⟨g, 0, none⟩) n cap] w fun e w' => (∃ g' cap' : Nat, e = .returned (.slice (some ⟨g', 0, none⟩) n cap') ∧ w.heap.size ≤ g' ∧ g' < w'.heap.size ∧ RowAt w' .u32 g' 0 n zs) ∧ Below w.heap.size w w' := by
  obtain ⟨i0, hi, hz0, hz1, hz2⟩ := info_parts Yba.info23
  have hnil := fun (W : World) => Lib.run_eql_slice_nil (P := Yba.prog) W 22 23 (some ⟨g, 0, none⟩) n cap 0 0 Yba.underlying22
  have hown : (w.alloc (.cells #[] 23)).ownsRow w.heap.size 23 1 (.slice (some ⟨w.heap.size, 0, none⟩) 0 0) 0 [] := World.ownsRow_made w #[] 0 (Nat.le_refl _) (by simp [maxLen]) rfl
  go_enter Yba.func5, Yba.ntmps5
  go_wp2_with (at_builtin; refine wpList_append_own _ rfl _ _ 22 rfl w.heap.size 23 i0 (.int .u32 0) 1 4 Yba.underlying22 hi hz0 hz1 hz2 rfl (by decide) (.slice (some ⟨w.heap.size, 0, none⟩) 0 0) 0 [] rfl hown ⟨g, 0, none⟩ n cap (zs.map (Value.int .u32)) rfl (by simp [hz]) ((hc.alloc _).news hz) (ints_oneCell _ _) (by unfold maxLen; omega) (by omega) (by simp) ?_; intro v' w1 hown' hgrow hnil')
  have hne : v' ≠ .slice none 0 0 := fun h => by simpa using hnil'.1 h
  simp only [Nat.zero_add, List.nil_append] at hown'
  obtain ⟨g', cap', hv, hg1, hg2, _, hrow⟩ := rowAt_of_owns hown' hne
  clear hnil hown hnil'
  rw [hv]
  go_wp2
  go_ret
  refine ⟨⟨g', cap', rfl, hg1, hg2, hrow⟩, ?_⟩
  exact ((Below.refl _ _).alloc (Nat.le_refl _) _).grown hgrow (by simp) (fun k hk => by simp [Value.ownBlock] at hk; omega)

/-- slices.Clone of a slice that is not nil. -/
theorem clone6 (g n cap : Nat) (zs : List Int) (w : World) (hn : n ≤ 100000) (hz : zs.length = n) (hc : RowAt w .i64 g 0 n zs) :
    Calls Yba.prog 6 #[.slice (some ⟨g, 0, none⟩) n cap] w fun e w' => (∃ g' cap' : Nat, e = .returned (.slice (some ⟨g', 0, none⟩) n cap') ∧ w.heap.size ≤ g' ∧ g' < w'.heap.size ∧ RowAt w' .i64 g' 0 n zs) ∧ Below w.heap.size w w' := by
  obtain ⟨i0, hi, hz0, hz1, hz2⟩ := info_parts Yba.info3
  have hnil := fun (W : World) => Lib.run_eql_slice_nil (P := Yba.prog) W 26 3 (some ⟨g, 0, none⟩) n cap 0 0 Yba.underlying26
  have hown : (w.alloc (.cells #[] 3)).ownsRow w.heap.size 3 1 (.slice (some ⟨w.heap.size, 0, none⟩) 0 0) 0 [] := World.ownsRow_made w #[] 0 (Nat.le_refl _) (by simp [maxLen]) rfl
  go_enter Yba.func6, Yba.ntmps6
  go_wp2_with (at_builtin; refine wpList_append_own _ rfl _ _ 26 rfl w.heap.size 3 i0 (.int .i64 0) 1 8 Yba.underlying26 hi hz0 hz1 hz2 rfl (by decide) (.slice (some ⟨w.heap.size, 0, none⟩) 0 0) 0 [] rfl hown ⟨g, 0, none⟩ n cap (zs.map (Value.int .i64)) rfl (by simp [hz]) ((hc.alloc _).news hz) (ints_oneCell _ _) (by unfold maxLen; omega) (by omega) (by simp) ?_; intro v' w1 hown' hgrow hnil')
  have hne : v' ≠ .slice none 0 0 := fun h => by simpa using hnil'.1 h
  simp only [Nat.zero_add, List.nil_append] at hown'
  obtain ⟨g', cap', hv, hg1, hg2, _, hrow⟩ := rowAt_of_owns hown' hne
  clear hnil hown hnil'
  rw [hv]
  go_wp2
  go_ret
  refine ⟨⟨g', cap', rfl, hg1, hg2, hrow⟩, ?_⟩
  exact ((Below.refl _ _).alloc (Nat.le_refl _) _).grown hgrow (by simp) (fun k hk => by simp [Value.ownBlock] at hk; omega)

end Go.Proofs.Ybulkeiqk
