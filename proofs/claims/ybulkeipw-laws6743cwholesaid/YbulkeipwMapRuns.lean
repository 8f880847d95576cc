import Derived.Test.YbulkeipwMaps
namespace Go.Proofs.Ybulkeipw
open Go.RowKit
set_option linter.unusedVariables false

/-- a block's object replaced -/
def setMap (w : World) (b : Nat) (o : Obj) : World := { w with heap := w.heap.setIfInBounds b o }

section
variable {T E : TypeId} {z : Value}

theorem run_check (w : World) (e : Bool) (k : ByteArray) : (Instr.checkKey e 10000 9 (.string k)).run Yba.prog w = .ok () w := by
  exact MapKept.run_checkKey Yba.underlying9 (by simp [MapKept.IsKey]) e 9999

theorem run_find {w : World} {es : Array MapEntry} {L : List (ByteArray × Value)} (h2 : es.toList.map pairOf = L.map (fun p => (.string p.1, p.2))) (k : ByteArray) :
    (Instr.findKey 9 (.string k) es.toList).run Yba.prog w = .ok ((look L k).map fun v => (idx L k, v)) w := by
  simp [Instr.findKey, run_underlying Yba.underlying9, findNow_look k es.toList L 0 h2]

/-- 'v, ok := m[k]' -/
theorem run_look {w : World} {b : Nat} {f : ByteArray → Option Value} (hT : Yba.prog.underlying T = some (.map 9 E)) (hz : ∀ w, (zeroValue E).run Yba.prog w = .ok z w) (h : MapF w b f) (k : ByteArray) :
    (Instr.lookup T (.map (some b)) (.string k) true).run Yba.prog w = .ok (.tuple #[(f k).getD z, .bool (f k).isSome]) w := by
  obtain ⟨es, c, L, h1, h2, h3, h4⟩ := h
  cases hk : f k with
  | none => simp [Instr.lookup, run_underlying hT, getObj, Sem.run, h1, run_check, run_find h2, h4, hk, hz]
  | some v => simp [Instr.lookup, run_underlying hT, getObj, Sem.run, h1, run_check, run_find h2, h4, hk]
/-- the same on a nil map -/
theorem run_look_nil (w : World) (hT : Yba.prog.underlying T = some (.map 9 E)) (hz : ∀ w, (zeroValue E).run Yba.prog w = .ok z w) (k : ByteArray) :
    (Instr.lookup T (.map none) (.string k) true).run Yba.prog w = .ok (.tuple #[z, .bool false]) w := by
  have h := run_find (w := w) (es := #[]) (L := []) rfl k
  simp [Instr.lookup, run_underlying hT, run_check]
  simp [Instr.findKey, run_underlying Yba.underlying9, Instr.findNow, hz]

theorem get_idx : ∀ (L : List (ByteArray × Value)) (k : ByteArray) (v : Value), look L k = some v → L[idx L k]? = some (k, v)
  | p :: L, k, v, h => by
    by_cases hk : p.1 = k
    · simp only [look, if_pos hk, Option.some.injEq] at h
      simp [idx, hk, ← h, Prod.ext_iff]
    · simp only [look, if_neg hk] at h
      simp [idx, hk, get_idx L k v h]

/-- 'm[k] = v' -/
theorem run_put {w : World} {b : Nat} {f : ByteArray → Option Value} (hT : Yba.prog.underlying T = some (.map 9 E)) (h : MapF w b f) (k : ByteArray) (v : Value) :
    ∃ o, (∀ W : World, W.heap[b]? = w.heap[b]? → (Instr.mapUpdate T (.map (some b)) (.string k) v).run Yba.prog W = .ok () (setMap W b o)) ∧ ∀ W : World, b < W.heap.size → MapF (setMap W b o) b (fun j => if j = k then some v else f j) := by
  obtain ⟨es, c, L, h1, h2, h3, h4⟩ := h
  have done : ∀ es' c', es'.toList.map pairOf = (put L k v).map (fun p => (Value.string p.1, p.2)) → ∀ W : World, b < W.heap.size → MapF (setMap W b (.map es' c')) b (fun j => if j = k then some v else f j) := fun es' c' he W hb =>
    ⟨es', c', put L k v, by simp [setMap, hb], he, once_put h3 k v, fun j => by rw [look_put, h4]⟩
  cases hk : look L k with
  | none =>
    refine ⟨.map (es.push ⟨.string k, v, c⟩) (c + 1), fun W hW => ?_, done _ _ ?_⟩
    · rw [h1] at hW
      simp [Instr.mapUpdate, run_underlying hT, getObj, setObj, Sem.run, hW, run_check, run_find h2, hk, setMap]
    · rw [put_of_none hk]
      simp [h2, pairOf]
  | some u =>
    have hi := get_idx L k u hk
    have hkey : (es[idx L k]?).map (·.key) = some (.string k) := by
      have e := congrArg (fun l => l[idx L k]?) h2
      simp only [List.getElem?_map, hi, Option.map_some, Array.getElem?_toList] at e
      cases hq : es[idx L k]? with
      | none => rw [hq] at e; simp at e
      | some q => rw [hq] at e; simp [pairOf] at e; simp [e.1]
    refine ⟨.map (es.modify (idx L k) fun e => { e with key := .string k, val := v }) c, fun W hW => ?_, done _ _ ?_⟩
    · rw [h1] at hW
      simp [Instr.mapUpdate, run_underlying hT, getObj, setObj, Sem.run, hW, run_check, run_find h2, hk, hkey, Instr.keyThatStays, Instr.sameBits, str_beq, setMap]
    · rw [put_of_some hk]
      apply List.ext_getElem?
      intro j
      have e := congrArg (fun l => l[j]?) h2
      simp only [List.getElem?_map, Array.getElem?_toList] at e
      simp only [List.getElem?_map, Array.getElem?_toList, Array.getElem?_modify, List.getElem?_modify]
      by_cases hj : idx L k = j
      · subst hj
        rw [hi] at e
        simp at e
        obtain ⟨q, hq, _⟩ := e
        simp [hq, hi, pairOf]
      · simp only [if_neg hj]
        simpa using e

theorem map_erase {α β : Type} (f : α → β) : ∀ (l : List α) (j : Nat), (l.eraseIdx j).map f = (l.map f).eraseIdx j
  | [], _ => by simp
  | _ :: _, 0 => by simp
  | a :: l, j + 1 => by simp [map_erase f l j]

/-- 'delete(m, k)' -/
theorem run_del {w : World} {b : Nat} {f : ByteArray → Option Value} (ty : TypeId) (kt : TypeId) (hT : Yba.prog.underlying T = some (.map 9 E)) (h : MapF w b f) (k : ByteArray) :
    ∃ o, (∀ W : World, W.heap[b]? = w.heap[b]? → (Builtin.delete_ #[T, kt] ty #[.map (some b), .string k]).run Yba.prog W = .ok (.tuple #[]) (setMap W b o)) ∧ ∀ W : World, b < W.heap.size → MapF (setMap W b o) b (fun j => if j = k then none else f j) := by
  obtain ⟨es, c, L, h1, h2, h3, h4⟩ := h
  have done : ∀ es' c', es'.toList.map pairOf = (del L k).map (fun p => (Value.string p.1, p.2)) → ∀ W : World, b < W.heap.size → MapF (setMap W b (.map es' c')) b (fun j => if j = k then none else f j) := fun es' c' he W hb =>
    ⟨es', c', del L k, by simp [setMap, hb], he, once_del h3 k, fun j => by rw [look_del h3, h4]⟩
  cases hk : look L k with
  | none =>
    refine ⟨.map es c, fun W hW => ?_, done _ _ ?_⟩
    · rw [h1] at hW
      simp [Builtin.delete_, run_underlying hT, getObj, setObj, Sem.run, hW, run_check, run_find h2, hk, setMap]
    · rw [del_of_none hk]; exact h2
  | some u =>
    refine ⟨.map (es.eraseIdxIfInBounds (idx L k)) c, fun W hW => ?_, done _ _ ?_⟩
    · rw [h1] at hW
      simp [Builtin.delete_, run_underlying hT, getObj, setObj, Sem.run, hW, run_check, run_find h2, hk, setMap]
    · rw [del_of_some hk, Array.toList_eraseIdxIfInBounds, map_erase, h2, map_erase]

/-- 'len(m)', where it holds a key -/
theorem run_len {w : World} {b : Nat} {f : ByteArray → Option Value} (ty : TypeId) (hT : Yba.prog.underlying T = some (.map 9 E)) (h : MapF w b f) :
    ∃ n : Nat, (∀ W : World, W.heap[b]? = w.heap[b]? → (Builtin.len_ #[T] ty #[.map (some b)]).run Yba.prog W = .ok (.int .i64 n) W) ∧ ((∃ k, (f k).isSome = true) → 1 ≤ n) ∧ ((∃ k, ∀ j, (f j).isSome = true → j = k) → n ≤ 1) := by
  obtain ⟨es, c, L, h1, h2, h3, h4⟩ := h
  have hlen : es.size = L.length := by have := congrArg List.length h2; simpa using this
  refine ⟨es.size, fun W hW => ?_, fun ⟨k, hk⟩ => ?_, fun ⟨k, hk⟩ => ?_⟩
  · rw [h1] at hW
    simp [Builtin.len_, run_underlying hT, getObj, Sem.run, hW, goInt]
  · rw [hlen]
    cases L with
    | nil => rw [← h4] at hk; simp [look] at hk
    | cons p L => simp
  · rw [hlen]
    match L, h3, h4 with
    | [], _, _ => simp
    | [p], _, _ => simp
    | p :: q :: L, h3, h4 =>
      have e1 := hk p.1 (by rw [← h4]; simp [look])
      have e2 : (f q.1).isSome = true := by
        rw [← h4]
        by_cases e : p.1 = q.1 <;> simp [look, e]
      have e3 := hk q.1 e2
      simp [Once] at h3
      exact absurd (e1.trans e3.symm) h3.1.1
end
end Go.Proofs.Ybulkeipw
