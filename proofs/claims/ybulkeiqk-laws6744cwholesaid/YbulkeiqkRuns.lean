import Derived.Test.YbulkeiqkPlain
namespace Go.Proofs.Ybulkeiqk
open Go.ChangeShapes Go.WideShapes Go.ChangeAt Go.RowKit
set_option linter.unusedVariables false

/-- Two rows of different element types are two blocks. -/
theorem ne_of_types {w : World} {b1 b2 e1 e2 : Nat} {v : Value} {N n cap g : Nat} {X Y : List Value} (h : w.ownsRow b1 e1 1 v N X) (hne : e1 ≠ e2)
    (h2 : w.ownsRow b2 e2 1 (.slice (some ⟨g, 0, none⟩) n cap) n Y) : v.ownBlock ≠ some g := by
  intro hv
  obtain ⟨_, ⟨rfl, _⟩ | ⟨g1, c1, cur, rfl, _, hh, _⟩⟩ := h
  · simp [Value.ownBlock] at hv
  obtain ⟨_, ⟨h3, _⟩ | ⟨g2, c2, cur2, h3, _, hh2, _⟩⟩ := h2
  · simp at h3
  simp [Value.ownBlock] at hv
  simp at h3
  obtain ⟨rfl, rfl⟩ := h3
  subst hv
  rw [hh] at hh2
  simp at hh2
  exact hne hh2.2

structure Runs (wm : World) (R : Nat) (M : List (List Int)) (n m : Nat) (v : Value) (wr : World) : Prop where
  own : wr.ownsRow R 23 1 v (flat (M.take m)).length ((flat (M.take m)).map (Value.int .u32))
  nn : v ≠ .slice none 0 0
  ra : wr.ownsRow (R + 1) 3 1 (.slice (some ⟨R + 1, 0, none⟩) (n + 1) (n + 1)) (n + 1) ((ats M n m).map (Value.int .i64))
  below : Below R wm wr
  size : R + 2 ≤ wr.heap.size

theorem runs_start (wm : World) (M : List (List Int)) (n : Nat) (hn : n ≤ 4096) :
    Runs wm wm.heap.size M n 0 (.slice (some ⟨wm.heap.size, 0, none⟩) 0 0) ((wm.alloc (.cells #[] 23)).alloc (.cells (madeCells #[.int .i64 0] (n + 1)) 3)) := by
  refine ⟨?_, by simp, ?_, ?_, by simp⟩
  · simp only [List.take_zero, flat, List.length_nil, List.map_nil]
    exact (World.ownsRow_made wm #[] 0 (Nat.le_refl _) (by simp [maxLen]) rfl).alloc _
  · have h := World.ownsRow_lit (base := wm.heap.size + 1) (e := 3) (size := 1) (wm.alloc (.cells #[] 23)) (madeCells #[.int .i64 0] (n + 1)) (n + 1) (by simp) (by unfold maxLen; omega) (by simp [size_madeCells])
    rw [toList_madeCells_one] at h
    rw [ats_zero, List.map_replicate]
    simpa using h
  · exact ((Below.refl _ _).alloc (Nat.le_refl _) _).alloc (by simp) _

/-- behind the first append of a round -/
theorem Runs.mid {wm : World} {R : Nat} {M : List (List Int)} {n m : Nat} {v : Value} {wr : World} (h : Runs wm R M n m v wr) (hR : R ≤ wm.heap.size)
    {x : Int} {v1 : Value} {w1 : World} (own1 : w1.ownsRow R 23 1 v1 ((flat (M.take m)).length + 1) ((flat (M.take m)).map (Value.int .u32) ++ [.int .u32 x])) (g1 : (wr.alloc (.cells #[.int .u32 x] 23)).grownBy w1 v.ownBlock) :
    w1.ownsRow (R + 1) 3 1 (.slice (some ⟨R + 1, 0, none⟩) (n + 1) (n + 1)) (n + 1) ((ats M n m).map (Value.int .i64)) ∧ Below R wm w1 ∧ R + 2 ≤ w1.heap.size ∧ v1.ownBlock ≠ some (R + 1) := by
  have hne := ne_of_types h.own (by decide) h.ra
  have hra := (h.ra.alloc (.cells #[.int .u32 x] 23)).kept g1 (.inr (fun e => hne (by simpa [Value.ownBlock] using e.symm)))
  refine ⟨hra, ?_, ?_, ne_of_types own1 (by decide) hra⟩
  · refine (h.below.alloc (by have := h.size; omega) _).grown g1 (by have := h.size; simp; omega) (fun k hk => ?_)
    exact (h.own.lt k hk).1
  · have := g1.size; have := h.size; simp at *; omega

/-- one content more -/
theorem Runs.step {wm : World} {R : Nat} {M : List (List Int)} {n m : Nat} {v : Value} {wr : World} (h : Runs wm R M n m v wr) (hR : R ≤ wm.heap.size) (hm : m < n)
    {L : List Int} {c : Nat} (hL : M[m]? = some L) (hLc : L.length = 2 * c)
    {v1 v2 : Value} {w1 w3 : World} (own1 : w1.ownsRow R 23 1 v1 ((flat (M.take m)).length + 1) ((flat (M.take m)).map (Value.int .u32) ++ [.int .u32 (c : Int)])) (g1 : (wr.alloc (.cells #[.int .u32 (c : Int)] 23)).grownBy w1 v.ownBlock)
    (own2 : w3.ownsRow R 23 1 v2 ((flat (M.take m)).length + 1 + 2 * c) (((flat (M.take m)).map (Value.int .u32) ++ [.int .u32 (c : Int)]) ++ L.map (Value.int .u32)))
    (g2 : (w1.setCell ⟨R + 1, m + 1, none⟩ (.int .i64 (((flat (M.take m)).length : Int) + 1))).grownBy w3 v1.ownBlock) (nn2 : v2 ≠ .slice none 0 0) :
    Runs wm R M n (m + 1) v2 w3 := by
  obtain ⟨hra, hb, hs, hne⟩ := h.mid hR own1 g1
  have e1 : flat (M.take (m + 1)) = (flat (M.take m) ++ [(c : Int)]) ++ L := by
    rw [take_snoc M m L hL, flat_snoc, hLc]
    congr 3; omega
  refine ⟨?_, nn2, ?_, ?_, ?_⟩
  · rw [e1]
    have e3 : ((flat (M.take m) ++ [(c : Int)]) ++ L).length = (flat (M.take m)).length + 1 + 2 * c := by simp [hLc]; omega
    rw [e3]
    simpa using own2
  · have hst := (hra.stored (m + 1) (.int .i64 (((flat (M.take m)).length : Int) + 1))).1
    have e2 : (((ats M n m).map (Value.int .i64)).set (m + 1) (.int .i64 (((flat (M.take m)).length : Int) + 1))) = (ats M n (m + 1)).map (Value.int .i64) := by
      rw [← ats_set M n m hm, List.map_set]
      simp [atOf]
    rw [e2] at hst
    exact hst.kept g2 (.inr (fun e => hne (by simpa [Value.ownBlock] using e.symm)))
  · exact (hb.setCell (p := ⟨R + 1, m + 1, none⟩) (by show R ≤ R + 1; omega) _).grown g2 (by simp [World.setCell]; omega) (fun k hk => (own1.lt k hk).1)
  · have := g2.size; simp [World.setCell] at this; omega
end Go.Proofs.Ybulkeiqk
