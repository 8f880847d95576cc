import Derived.Test.YbulkeipwRows
import Derived.WalkKit
import Derived.WalkSpells
import Derived.ProofKit
import Derived.Below
import Derived.Deep.QuietTactic
import Derived.BigQuiet
import Derived.WalkSmall
import Derived.Laws.Pointers
namespace Go.Proofs.Ybulkeipw
open Go.RowKit
set_option linter.unusedVariables false

/-! ### STRINGS: Go's '==' on them, as the walk spells it -/
theorem str_beq (a b : ByteArray) : (a == b) = decide (a = b) := by
  by_cases h : a = b
  · rw [decide_eq_true h, MapKept.bytes_beq]; exact h
  · rw [decide_eq_false h]
    cases e : a == b
    · rfl
    · exact absurd ((MapKept.bytes_beq a b).1 e) h
theorem str_eql (a b : ByteArray) : (a.toList == b.toList) = decide (a = b) := by rw [← beq_toListBytes]; exact str_beq a b
theorem str_ne {a b : ByteArray} (h : a ≠ b) : (a.toList == b.toList) = false := by rw [str_eql]; exact decide_eq_false h
theorem str_eq {a b : ByteArray} (h : a = b) : (a.toList == b.toList) = true := by rw [str_eql]; exact decide_eq_true h

/-! ### MAPS KEYED BY STRINGS: what a block answers -/
/-- the first entry at key k -/
def look : List (ByteArray × Value) → ByteArray → Option Value
  | [], _ => none
  | p :: L, k => if p.1 = k then some p.2 else look L k
/-- an entry as a pair -/
def pairOf (e : MapEntry) : Value × Value := (e.key, e.val)
/-- where the first entry at key k stands -/
def idx : List (ByteArray × Value) → ByteArray → Nat
  | [], _ => 0
  | p :: L, k => if p.1 = k then 0 else idx L k + 1
/-- a store -/
def put : List (ByteArray × Value) → ByteArray → Value → List (ByteArray × Value)
  | [], k, v => [(k, v)]
  | p :: L, k, v => if p.1 = k then (k, v) :: L else p :: put L k v
/-- a delete -/
def del : List (ByteArray × Value) → ByteArray → List (ByteArray × Value)
  | [], _ => []
  | p :: L, k => if p.1 = k then L else p :: del L k

theorem findNow_look (k : ByteArray) : ∀ (es : List MapEntry) (L : List (ByteArray × Value)) (i : Nat), es.map pairOf = L.map (fun p => (.string p.1, p.2)) →
    Instr.findNow .string (.string k) es i = some ((look L k).map fun v => (i + idx L k, v))
  | [], [], i, _ => by simp [Instr.findNow, look]
  | e :: es, p :: L, i, h => by
    simp only [List.map_cons, List.cons.injEq, pairOf, Prod.mk.injEq] at h
    obtain ⟨⟨h1, h2⟩, h3⟩ := h
    by_cases hk : p.1 = k
    · simp [Instr.findNow, h1, Instr.sameNow, str_beq, look, idx, h2, hk]
    · have hk' : ¬ k = p.1 := fun h => hk h.symm
      rw [Instr.findNow, h1]
      simp only [Instr.sameNow, str_beq, decide_eq_false hk', findNow_look k es L (i + 1) h3, look, idx, if_neg hk]
      cases look L k <;> simp; omega

theorem put_of_some {L : List (ByteArray × Value)} {k : ByteArray} {v u : Value} (h : look L k = some u) : put L k v = L.modify (idx L k) (fun _ => (k, v)) := by
  induction L with
  | nil => simp [look] at h
  | cons p L ih =>
    by_cases hk : p.1 = k
    · simp [put, idx, hk]
    · simp only [look, if_neg hk] at h
      simp [put, idx, hk, ih h]
theorem put_of_none {L : List (ByteArray × Value)} {k : ByteArray} {v : Value} (h : look L k = none) : put L k v = L ++ [(k, v)] := by
  induction L with
  | nil => rfl
  | cons p L ih =>
    by_cases hk : p.1 = k
    · simp [look, hk] at h
    · simp only [look, if_neg hk] at h
      simp [put, hk, ih h]
theorem del_of_some {L : List (ByteArray × Value)} {k : ByteArray} {u : Value} (h : look L k = some u) : del L k = L.eraseIdx (idx L k) := by
  induction L with
  | nil => simp [look] at h
  | cons p L ih =>
    by_cases hk : p.1 = k
    · simp [del, idx, hk]
    · simp only [look, if_neg hk] at h
      simp [del, idx, hk, ih h]
theorem del_of_none {L : List (ByteArray × Value)} {k : ByteArray} (h : look L k = none) : del L k = L := by
  induction L with
  | nil => rfl
  | cons p L ih =>
    by_cases hk : p.1 = k
    · simp [look, hk] at h
    · simp only [look, if_neg hk] at h
      simp [del, hk, ih h]
theorem look_put (L : List (ByteArray × Value)) (k : ByteArray) (v : Value) (j : ByteArray) : look (put L k v) j = if j = k then some v else look L j := by
  induction L with
  | nil => simp [put, look, eq_comm]
  | cons p L ih =>
    by_cases hk : p.1 = k
    · by_cases hj : j = k
      · subst hj; simp [put, hk, look]
      · simp [put, hk, look, hj, show ¬ k = j from fun h => hj h.symm]
    · simp only [put, if_neg hk, look, ih]
      by_cases hj : p.1 = j
      · subst hj; simp [hk]
      · simp [hj]
/-- no key twice -/
def Once (L : List (ByteArray × Value)) : Prop := (L.map (·.1)).Nodup
theorem look_none {L : List (ByteArray × Value)} {k : ByteArray} : look L k = none ↔ k ∉ L.map (·.1) := by
  induction L with
  | nil => simp [look]
  | cons p L ih =>
    by_cases hk : p.1 = k
    · simp [look, hk]
    · have hk' : ¬ k = p.1 := fun h => hk h.symm
      simp only [look, if_neg hk, ih, List.map_cons, List.mem_cons, hk', false_or]
theorem once_put {L : List (ByteArray × Value)} (h : Once L) (k : ByteArray) (v : Value) : Once (put L k v) := by
  induction L with
  | nil => simp [put, Once]
  | cons p L ih =>
    have h' : p.1 ∉ L.map (·.1) ∧ Once L := by simpa [Once] using h
    by_cases hk : p.1 = k
    · have := h'.1
      simp only [put, if_pos hk, Once, List.map_cons, List.nodup_cons]
      exact ⟨by rw [← hk]; exact this, h'.2⟩
    · simp only [put, if_neg hk, Once, List.map_cons, List.nodup_cons]
      refine ⟨fun hm => ?_, ih h'.2⟩
      have h1 : look (put L k v) p.1 = none := by rw [look_put, if_neg hk]; exact look_none.2 h'.1
      exact look_none.1 h1 hm
theorem look_del {L : List (ByteArray × Value)} (h : Once L) (k j : ByteArray) : look (del L k) j = if j = k then none else look L j := by
  induction L with
  | nil => simp [del, look]
  | cons p L ih =>
    have h' : p.1 ∉ L.map (·.1) ∧ Once L := by simpa [Once] using h
    by_cases hk : p.1 = k
    · simp only [del, if_pos hk, look]
      by_cases hj : j = k
      · subst hj; rw [if_pos rfl, ← hk]; exact look_none.2 h'.1
      · rw [if_neg hj, if_neg (fun e => hj (by rw [← e, hk]))]
    · simp only [del, if_neg hk, look, ih h'.2]
      by_cases hj : p.1 = j
      · subst hj; simp [hk]
      · simp [hj]
theorem once_del {L : List (ByteArray × Value)} (h : Once L) (k : ByteArray) : Once (del L k) := by
  induction L with
  | nil => exact h
  | cons p L ih =>
    have h' : p.1 ∉ L.map (·.1) ∧ Once L := by simpa [Once] using h
    by_cases hk : p.1 = k
    · simpa [del, hk] using h'.2
    · simp only [del, if_neg hk, Once, List.map_cons, List.nodup_cons]
      refine ⟨fun hm => ?_, ih h'.2⟩
      have h1 : look (del L k) p.1 = none := by rw [look_del h'.2, if_neg hk]; exact look_none.2 h'.1
      exact look_none.1 h1 hm

/-- BLOCK b IS A MAP THAT ANSWERS LOOK-UPS AS f. -/
def MapF (w : World) (b : Nat) (f : ByteArray → Option Value) : Prop :=
  ∃ es clock L, w.heap[b]? = some (.map es clock) ∧ es.toList.map pairOf = L.map (fun p => (.string p.1, p.2)) ∧ Once L ∧ ∀ k, look L k = f k

theorem MapF.congr {w w' : World} {b : Nat} {f : ByteArray → Option Value} (h : MapF w b f) (e : w'.heap[b]? = w.heap[b]?) : MapF w' b f := by
  obtain ⟨es, c, L, h1, h2⟩ := h
  exact ⟨es, c, L, e.trans h1, h2⟩
theorem MapF.lt {w : World} {b : Nat} {f : ByteArray → Option Value} (h : MapF w b f) : b < w.heap.size := by
  obtain ⟨es, c, L, h1, h2⟩ := h
  exact lt_of_block h1
theorem mapF_new (w : World) : MapF (w.alloc (.map #[] 0)) w.heap.size (fun _ => none) := ⟨#[], 0, [], heap_alloc_new w _, rfl, by simp [Once], fun _ => rfl⟩
end Go.Proofs.Ybulkeipw
