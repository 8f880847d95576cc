import Derived.Test.YbulkeipwDel
import Derived.LaidEqlPtr
namespace Go.Proofs.Ybulkeipw
open Go.RowKit
set_option linter.unusedVariables false

/-- the key '[2]any{m, k}' -/
abbrev key2 (m : Nat) (k : ByteArray) : Value := .agg #[.iface 28 (ptr m), .iface 9 (.string k)]

theorem info28 : (Yba.prog.info? 28).map (fun i => (i.comparable, i.size)) = some (true, 1) := by kernel_rfl
theorem info9c : (Yba.prog.info? 9).map (fun i => (i.comparable, i.size)) = some (true, 1) := by kernel_rfl
theorem info88 : (Yba.prog.info? 88).map (fun i => i.size) = some 5 := by kernel_rfl
theorem build48 (a b : Value) (w : World) : (Instr.build 48 #[(0, .iface 28 a), (1, .iface 9 b)]).run Yba.prog w = .ok (.agg #[.iface 28 a, .iface 9 b]) w := run_build w 48 _ _ (by kernel_rfl)

theorem check_iface {n : Nat} {e : Bool} {w : World} {d : TypeId} {v : Value} {i : TypeInfo} (hi : Yba.prog.info? d = some i) (hc : i.comparable = true) (hv : (Instr.checkKey e n d v).run Yba.prog w = .ok () w) : (Instr.checkKey e (n + 1) 20 (.iface d v)).run Yba.prog w = .ok () w := by
  rw [Instr.checkKey]
  simp only [Sem.run_bind, run_underlying Yba.underlying20, Result.andThen_ok]
  simp [typeInfo, hi, hc, hv]

theorem check2 (w : World) (e : Bool) (m : Nat) (k : ByteArray) : (Instr.checkKey e 10000 48 (key2 m k)).run Yba.prog w = .ok () w := by
  obtain ⟨i, hi, hc⟩ : ∃ i, Yba.prog.info? 28 = some i ∧ i.comparable = true := by
    have := info28
    cases h : Yba.prog.info? 28 with
    | none => rw [h] at this; simp at this
    | some i => rw [h] at this; simp at this; exact ⟨i, rfl, this.1⟩
  obtain ⟨j, hj, hcj⟩ : ∃ i, Yba.prog.info? 9 = some i ∧ i.comparable = true := by
    have := info9c
    cases h : Yba.prog.info? 9 with
    | none => rw [h] at this; simp at this
    | some i => rw [h] at this; simp at this; exact ⟨i, rfl, this.1⟩
  have h1 : ∀ w, (Instr.checkKey e 9999 20 (.iface 28 (ptr m))).run Yba.prog w = .ok () w := fun w => check_iface hi hc (by
    rw [show (9998 : Nat) = 9997 + 1 from rfl, Instr.checkKey]
    simp [run_underlying Yba.underlying28])
  have h2 : ∀ w, (Instr.checkKey e 9999 20 (.iface 9 (.string k))).run Yba.prog w = .ok () w := fun w => check_iface hj hcj (by
    rw [show (9998 : Nat) = 9997 + 1 from rfl, Instr.checkKey]
    simp [run_underlying Yba.underlying9])
  have u20 := Yba.underlying20
  have a20 := Yba.isAgg20
  have z20 := Yba.sizeOf20
  rw [show (10000 : Nat) = 9999 + 1 from rfl, Instr.checkKey]
  simp only [Sem.run_bind, run_underlying Yba.underlying48, Result.andThen_ok]
  simp only [Std.Legacy.Range.forIn_eq_forIn_range', Std.Legacy.Range.size, Nat.sub_zero, Nat.add_sub_cancel, Nat.div_one, List.range'_succ, List.range'_zero, List.forIn_cons, List.forIn_nil]
  go_simp

theorem eq_iface {n : Nat} {w : World} {d : TypeId} {u v : Value} {b : Bool} {i : TypeInfo} (hi : Yba.prog.info? d = some i) (hc : i.comparable = true) (hv : (Op.equalIn n d u v).run Yba.prog w = .ok b w) : (Op.equalIn (n + 1) 20 (.iface d u) (.iface d v)).run Yba.prog w = .ok b w := by
  rw [Op.equalIn]
  simp only [Sem.run_bind, run_underlying Yba.underlying20, Result.andThen_ok]
  simp [typeInfo, hi, hc, hv]

theorem eq2 (w : World) (m : Nat) (k : ByteArray) : (Op.equal 48 (key2 m k) (key2 m k)).run Yba.prog w = .ok true w := by
  obtain ⟨i, hi, hc⟩ : ∃ i, Yba.prog.info? 28 = some i ∧ i.comparable = true := by
    have := info28
    cases h : Yba.prog.info? 28 with
    | none => rw [h] at this; simp at this
    | some i => rw [h] at this; simp at this; exact ⟨i, rfl, this.1⟩
  obtain ⟨j, hj, hcj⟩ : ∃ i, Yba.prog.info? 9 = some i ∧ i.comparable = true := by
    have := info9c
    cases h : Yba.prog.info? 9 with
    | none => rw [h] at this; simp at this
    | some i => rw [h] at this; simp at this; exact ⟨i, rfl, this.1⟩
  obtain ⟨q, hq, hqs⟩ : ∃ i, Yba.prog.info? 88 = some i ∧ i.size = 5 := by
    have := info88
    cases h : Yba.prog.info? 88 with
    | none => rw [h] at this; simp at this
    | some i => rw [h] at this; simp at this; exact ⟨i, rfl, this⟩
  have h1 : ∀ w, (Op.equalIn 9999 20 (.iface 28 (ptr m)) (.iface 28 (ptr m))).run Yba.prog w = .ok true w := fun w => eq_iface hi hc (by
    rw [show (9998 : Nat) = 9997 + 1 from rfl, Op.equalIn]
    simp [run_underlying Yba.underlying28, sizeOf, typeInfo, hq, run_sameAddr_same])
  have h2 : ∀ w, (Op.equalIn 9999 20 (.iface 9 (.string k)) (.iface 9 (.string k))).run Yba.prog w = .ok true w := fun w => eq_iface hj hcj (by
    rw [show (9998 : Nat) = 9997 + 1 from rfl, run_equalIn_string w 9997 9 k k Yba.underlying9]
    simp)
  have u20 := Yba.underlying20
  have a20 := Yba.isAgg20
  have z20 := Yba.sizeOf20
  rw [Op.equal, Op.maxDepth, show (10000 : Nat) = 9999 + 1 from rfl, Op.equalIn]
  simp only [Sem.run_bind, run_underlying Yba.underlying48, Result.andThen_ok]
  simp only [Std.Legacy.Range.forIn_eq_forIn_range', Std.Legacy.Range.size, Nat.sub_zero, Nat.add_sub_cancel, Nat.div_one, List.range'_succ, List.range'_zero, List.forIn_cons, List.forIn_nil]
  go_simp

/-- the look-up in an empty copied map -/
theorem look2_empty {w : World} {r c : Nat} (h : w.heap[r]? = some (.map #[] c)) (m : Nat) (k : ByteArray) : (Instr.lookup 43 (.map (some r)) (key2 m k) false).run Yba.prog w = .ok (.bool false) w := by
  simp [Instr.lookup, run_underlying Yba.underlying43, getObj, Sem.run, h, check2, Instr.findKey, run_underlying Yba.underlying48, Instr.findNow, Yba.zeroValue4]
theorem put2_empty {w : World} {r c : Nat} (h : w.heap[r]? = some (.map #[] c)) (m : Nat) (k : ByteArray) : (Instr.mapUpdate 43 (.map (some r)) (key2 m k) (.bool true)).run Yba.prog w = .ok () (setMap w r (.map #[⟨key2 m k, .bool true, c⟩] (c + 1))) := by
  simp [Instr.mapUpdate, run_underlying Yba.underlying43, getObj, setObj, Sem.run, h, check2, Instr.findKey, run_underlying Yba.underlying48, Instr.findNow, setMap]
theorem look2_one {w : World} {r c d : Nat} {m : Nat} {k : ByteArray} (h : w.heap[r]? = some (.map #[⟨key2 m k, .bool true, c⟩] d)) : (Instr.lookup 43 (.map (some r)) (key2 m k) false).run Yba.prog w = .ok (.bool true) w := by
  simp [Instr.lookup, run_underlying Yba.underlying43, getObj, Sem.run, h, check2, Instr.findKey, run_underlying Yba.underlying48, Instr.findNow, Instr.sameNow, Instr.findAsking, eq2]
theorem len2_one {w : World} {r c d : Nat} {v : Value} (ty : TypeId) (h : w.heap[r]? = some (.map #[⟨v, .bool true, c⟩] d)) : (Builtin.len_ #[43] ty #[.map (some r)]).run Yba.prog w = .ok (.int .i64 1) w := by
  simp [Builtin.len_, run_underlying Yba.underlying43, getObj, Sem.run, h, goInt]
end Go.Proofs.Ybulkeipw
