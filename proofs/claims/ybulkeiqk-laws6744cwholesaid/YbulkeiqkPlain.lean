import Derived.Test.YbulkeiqkWorked
namespace Go.Proofs.Ybulkeiqk
open Go.ChangeShapes Go.WideShapes Go.ChangeAt Go.RowKit
set_option linter.unusedVariables false

/-! ### PLAIN: the runs, one content after another -/
def flat : List (List Int) → List Int
  | [] => []
  | L :: M => ((L.length / 2 : Nat) : Int) :: (L ++ flat M)

theorem flat_append (A B : List (List Int)) : flat (A ++ B) = flat A ++ flat B := by
  induction A with
  | nil => rfl
  | cons L A ih => simp [flat, ih]

theorem flat_len (M : List (List Int)) (h : ∀ L ∈ M, L.length ≤ 14) : (flat M).length ≤ 15 * M.length := by
  induction M with
  | nil => simp [flat]
  | cons L M ih =>
    have h1 := h L (by simp)
    have h2 := ih (fun x hx => h x (by simp [hx]))
    simp [flat]; omega

theorem flat_snoc (M : List (List Int)) (L : List Int) : flat (M ++ [L]) = (flat M ++ [((L.length / 2 : Nat) : Int)]) ++ L := by
  simp [flat_append, flat]

theorem take_snoc {α : Type} (M : List α) (m : Nat) (L : α) (h : M[m]? = some L) : M.take (m + 1) = M.take m ++ [L] := by
  obtain ⟨hm, rfl⟩ := List.getElem?_eq_some_iff.1 h
  exact List.take_succ_eq_append_getElem hm

/-- where the content t begins, and what lies there -/
theorem flat_split (M : List (List Int)) (t : Nat) (L : List Int) (h : M[t]? = some L) :
    ∃ R, flat M = flat (M.take t) ++ (((L.length / 2 : Nat) : Int) :: (L ++ R)) := by
  refine ⟨flat (M.drop (t + 1)), ?_⟩
  have e := flat_append (M.take (t + 1)) (M.drop (t + 1))
  rw [List.take_append_drop, take_snoc M t L h, flat_snoc] at e
  rw [e]
  simp

theorem flat_at (M : List (List Int)) (t : Nat) (L : List Int) (h : M[t]? = some L) :
    (flat M).getD (flat (M.take t)).length 0 = ((L.length / 2 : Nat) : Int) ∧ (∀ j, j < L.length → (flat M).getD ((flat (M.take t)).length + 1 + j) 0 = L.getD j 0) ∧
      (flat (M.take t)).length + 1 + L.length ≤ (flat M).length := by
  obtain ⟨R, hR⟩ := flat_split M t L h
  rw [hR]
  refine ⟨by simp [List.getD], fun j hj => ?_, by simp; omega⟩
  rw [List.getD_eq_getElem?_getD, List.getD_eq_getElem?_getD, List.getElem?_append_right (by omega),
    show (flat (M.take t)).length + 1 + j - (flat (M.take t)).length = j + 1 by omega, List.getElem?_cons_succ, List.getElem?_append_left hj]

/-- the content t begins here (behind its count) -/
def atOf (M : List (List Int)) (t : Nat) : Nat := (flat (M.take t)).length + 1

/-- runsAt when m contents are worked out -/
def ats (M : List (List Int)) (n m : Nat) : List Int := (List.range (n + 1)).map fun j => if 1 ≤ j ∧ j ≤ m then ((atOf M (j - 1) : Nat) : Int) else 0

theorem ats_len (M : List (List Int)) (n m : Nat) : (ats M n m).length = n + 1 := by simp [ats]
theorem ats_get (M : List (List Int)) (n m j : Nat) (hj : j ≤ n) : (ats M n m).getD j 0 = if 1 ≤ j ∧ j ≤ m then ((atOf M (j - 1) : Nat) : Int) else 0 := by
  simp [ats, List.getD, show j < n + 1 by omega]
theorem ats_zero (M : List (List Int)) (n : Nat) : ats M n 0 = List.replicate (n + 1) 0 := by
  apply List.ext_getElem
  · simp [ats]
  · intro j h1 h2
    simp [ats]; omega
theorem ats_set (M : List (List Int)) (n m : Nat) (hm : m < n) : (ats M n m).set (m + 1) ((atOf M m : Nat) : Int) = ats M n (m + 1) := by
  apply List.ext_getElem
  · simp [ats]
  · intro j h1 h2
    simp only [ats, List.getElem_set, List.getElem_map, List.getElem_range]
    by_cases e : m + 1 = j
    · subst e; simp
    · rw [if_neg e]
      by_cases hj : 1 ≤ j ∧ j ≤ m
      · rw [if_pos hj, if_pos (by omega)]
      · rw [if_neg hj, if_neg (by omega)]

/-! ### THE MODEL IN MEMORY -/
/-- the cell j of the slice of slices -/
def cellOf (B : Nat) (M : List (List Int)) : Nat → Value
  | 0 => .slice none 0 0
  | t + 1 => match M[t]? with
    | some L => .slice (some ⟨B + 1 + t, 0, none⟩) L.length L.length
    | none => .slice none 0 0

structure ModelIn (w : World) (B n : Nat) (M : List (List Int)) (wr : World) : Prop where
  size : wr.heap.size = B + 1 + M.length
  hd : ∀ j, j ≤ n → wr.cell? ⟨B, j, none⟩ = some (cellOf B M j)
  hf : ∀ j, wr.frozen? ⟨B, j, none⟩ = false
  rows : ∀ t L, M[t]? = some L → RowAt wr .u32 (B + 1 + t) 0 L.length L
  even : ∀ L ∈ M, ∃ c, c ≤ 7 ∧ L.length = 2 * c
  below : Below B w wr

theorem madeCells_one_get (z : Value) (n j : Nat) (hj : j < n) : (madeCells #[z] n)[j]? = some z := by
  have := congrArg (fun l => l[j]?) (toList_madeCells_one z n)
  simpa [hj] using this

/-- the model as 'make' lays it -/
theorem modelIn_start (w : World) (n : Nat) : ModelIn w w.heap.size n [] (w.alloc (.cells (madeCells #[.slice none 0 0] (n + 1)) 22)) := by
  refine ⟨by simp, fun j hj => ?_, fun j => ?_, fun t L h => by simp at h, fun L h => by simp at h, (Below.refl _ _).alloc (Nat.le_refl _) _⟩
  · rw [World.cell?_alloc_at _ _ _ _ rfl, madeCells_one_get _ _ _ (by omega)]
    cases j <;> simp [cellOf]
  · exact World.frozen?_alloc_at _ _ _ _ rfl

/-- one content more: its row was laid as the next block and filled; then its slice was stored. -/
theorem ModelIn.step {w : World} {B n : Nat} {M : List (List Int)} {wr wi : World} (h : ModelIn w B n M wr) {L : List Int} {c : Nat} (hm : M.length < n) (hc : c ≤ 7) (hL : L.length = 2 * c)
    (hs : wi.heap.size = wr.heap.size + 1) (hrow : RowAt wi .u32 wr.heap.size 0 L.length L) (hb : Below wr.heap.size wr wi) :
    ModelIn w B n (M ++ [L]) (wi.setCell ⟨B, M.length + 1, none⟩ (.slice (some ⟨wr.heap.size, 0, none⟩) (2 * c) (2 * c))) := by
  have hsz := h.size
  have hcellB : ∀ j, wi.cell? ⟨B, j, none⟩ = wr.cell? ⟨B, j, none⟩ := fun j => hb.cell (p := ⟨B, j, none⟩) (by show B < _; omega)
  refine ⟨?_, fun j hj => ?_, fun j => ?_, fun t L' ht => ?_, fun L' hL' => ?_, ?_⟩
  · simp [World.setCell, hs, hsz]; omega
  · by_cases e : j = M.length + 1
    · subst e
      rw [World.cell?_setCell_same _ _ _ ((hcellB _).trans (h.hd _ hj))]
      simp [cellOf, hL, hsz]
    · rw [World.cell?_setCell_other _ _ _ _ (fun h => e (by simpa using (congrArg Addr.off h).symm)), hcellB, h.hd j hj]
      cases j with
      | zero => rfl
      | succ t =>
        by_cases ht : t < M.length
        · simp [cellOf, List.getElem?_append_left ht]
        · have e1 : M[t]? = none := List.getElem?_eq_none (by omega)
          have e2 : (M ++ [L])[t]? = none := List.getElem?_eq_none (by simp; omega)
          simp [cellOf, e1, e2]
  · rw [World.frozen?_setCell, hb.frozen (p := ⟨B, j, none⟩) (by show B < _; omega)]
    exact h.hf j
  · intro i hi
    rw [World.cell?_setCell_other _ _ _ _ (fun h => by have := congrArg Addr.block h; simp at this; omega)]
    by_cases e : t < M.length
    · rw [List.getElem?_append_left e] at ht
      rw [hb.cell (p := ⟨B + 1 + t, 0 + i, none⟩) (by show B + 1 + t < _; omega)]
      exact h.rows t L' ht i hi
    · have e2 : t = M.length := by
        have := (List.getElem?_eq_some_iff.1 ht).1
        simp at this; omega
      subst e2
      simp at ht
      subst ht
      rw [← hsz]
      exact hrow i hi
  · rcases List.mem_append.1 hL' with h' | h'
    · exact h.even L' h'
    · simp at h'; subst h'; exact ⟨c, hc, hL⟩
  · exact (h.below.trans (hb.mono (by omega))).setCell (Nat.le_refl _) _
end Go.Proofs.Ybulkeiqk
