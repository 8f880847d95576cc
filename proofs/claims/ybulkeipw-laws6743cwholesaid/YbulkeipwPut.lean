import Derived.Test.YbulkeipwLook
namespace Go.Proofs.Ybulkeipw
open Go.RowKit
set_option linter.unusedVariables false

/-- the world in which a Map gets its first base -/
abbrev based (w : World) (m : Nat) (O : Obj) : World := (((w.setCell ⟨m, 0, none⟩ (.map (some (w.heap.size + 1)))).setCell ⟨m, 3, none⟩ (.bool true)).alloc O).alloc (.map #[] 0)

theorem size_setCell (w : World) (p : Addr) (v : Value) : (w.setCell p v).heap.size = w.heap.size := by simp [World.setCell]
theorem size_based (w : World) (m : Nat) (O : Obj) : (based w m O).heap.size = w.heap.size + 2 := by simp [World.setCell]
theorem based_cow {w : World} {m : Nat} {T : TypeId} {n : Int} (h : Cow w m T none none n false false) (O : Obj) : Cow (based w m O) m T (some (w.heap.size + 1)) none n true false :=
  (((h.setCell 0 (.map (some (w.heap.size + 1)))).setCell 3 (.bool true)).alloc O).alloc (.map #[] 0)
theorem based_map (w : World) (m : Nat) (O : Obj) : MapF (based w m O) (w.heap.size + 1) (fun _ => none) := by
  have := mapF_new (((w.setCell ⟨m, 0, none⟩ (.map (some (w.heap.size + 1)))).setCell ⟨m, 3, none⟩ (.bool true)).alloc O)
  rw [World.size_alloc, size_setCell, size_setCell] at this
  exact this
theorem based_fr (w : World) (m : Nat) (O : Obj) : Fr (· = m) w (based w m O) :=
  ((((Fr.refl (· = m) w).setCell ⟨m, 0, none⟩ _ (fun _ => rfl)).setCell ⟨m, 3, none⟩ _ (fun _ => rfl)).alloc O).alloc _

/-- .. and, behind the store, what it is good for -/
theorem based_fin {w : World} {m : Nat} {T : TypeId} {n : Int} (h : Cow w m T none none n false false) (O o : Obj) {f : ByteArray → Option Value} (hnew : ∀ W : World, w.heap.size + 1 < W.heap.size → MapF (setMap W (w.heap.size + 1) o) (w.heap.size + 1) f) :
    (∃ b, w.heap.size ≤ b ∧ Cow (setMap (based w m O).drew (w.heap.size + 1) o) m T (some b) none n true false ∧ MapF (setMap (based w m O).drew (w.heap.size + 1) o) b f) ∧ Fr (· = m) w (setMap (based w m O).drew (w.heap.size + 1) o) := by
  have hm := h.lt
  refine ⟨⟨w.heap.size + 1, by omega, (based_cow h O).congr ?_, hnew _ ?_⟩, ((based_fr w m O).drew).setMap _ _ (fun e => by omega)⟩
  · rw [heap_setMap_ne _ _ _ _ (by omega)]; rfl
  · show _ < (based w m O).heap.size
    rw [size_based]; omega

/-! ### put 35 -/
set_option maxRecDepth 20000 in
/-- its own base: a value -/
theorem pput_own {w : World} {m b : Nat} {n : Int} {f : ByteArray → Option Value} (h : Cow w m 93 (some b) none n true false) (hf : MapF w b f) (k : ByteArray) (sv : ByteArray) :
    Calls Yba.prog 35 #[.pointer (some ⟨m, 0, none⟩), .string k, .agg #[.string sv, .bool false]] w fun e w' => e = .returned (.tuple #[]) ∧ MapF w' b (fun j => if j = k then some (.string sv) else f j) ∧ Fr (· = b) w w' := by
  obtain ⟨o, hrun, hnew⟩ := run_put Yba.underlying90 hf k (.string sv)
  obtain ⟨W1, hW1⟩ : ∃ W1, W1 = w.alloc (.cells #[.string sv, .bool false] 111) := ⟨_, rfl⟩
  have hcow : Cow W1 m 93 (some b) none n true false := by rw [hW1]; exact h.alloc _
  have c0 : W1.cell? ⟨m, 0, none⟩ = some (.map (some b)) := hcow.cell 0
  have c3 : W1.cell? ⟨m, 3, none⟩ = some (.bool true) := hcow.cell 3
  have e0 : W1.cell? ⟨w.heap.size, 0, none⟩ = some (.string sv) := by rw [hW1, World.cell?_alloc_at _ _ _ _ rfl]; rfl
  have e1 : W1.cell? ⟨w.heap.size, 1, none⟩ = some (.bool false) := by rw [hW1, World.cell?_alloc_at _ _ _ _ rfl]; rfl
  have hr := hrun W1.drew (by rw [hW1]; exact Below.heap_alloc _ _ _ hf.lt)
  have hq := fun (W : World) => run_eql_map_nil (P := Yba.prog) W 90 9 9 (some b) Yba.underlying90
  clear hrun
  rw [hW1] at c0 c3 e0 e1 hr
  go_enter Yba.func35, Yba.ntmps35
  go_wp2
  go_region
  go_wp2
  first | go_end0 | refine bodyPost_ret (results_none rfl _ _ _) rfl ?_
  exact ⟨rfl, hnew _ (by have := hf.lt; simp; omega), ((Fr.refl _ _).alloc _).drew.setMap _ _ (fun _ => rfl)⟩

set_option maxRecDepth 20000 in
/-- its own base: a delete -/
theorem pput_gone {w : World} {m b : Nat} {n : Int} {f : ByteArray → Option Value} (h : Cow w m 93 (some b) none n true false) (hf : MapF w b f) (k : ByteArray) :
    Calls Yba.prog 35 #[.pointer (some ⟨m, 0, none⟩), .string k, .agg #[(.string { data := #[] }), .bool true]] w fun e w' => e = .returned (.tuple #[]) ∧ MapF w' b (fun j => if j = k then none else f j) ∧ Fr (· = b) w w' := by
  obtain ⟨o, hrun, hnew⟩ := run_del 0 9 Yba.underlying90 hf k
  obtain ⟨W1, hW1⟩ : ∃ W1, W1 = w.alloc (.cells #[(.string { data := #[] }), .bool true] 111) := ⟨_, rfl⟩
  have hcow : Cow W1 m 93 (some b) none n true false := by rw [hW1]; exact h.alloc _
  have c0 : W1.cell? ⟨m, 0, none⟩ = some (.map (some b)) := hcow.cell 0
  have c3 : W1.cell? ⟨m, 3, none⟩ = some (.bool true) := hcow.cell 3
  have e1 : W1.cell? ⟨w.heap.size, 1, none⟩ = some (.bool true) := by rw [hW1, World.cell?_alloc_at _ _ _ _ rfl]; rfl
  have hr := hrun W1 (by rw [hW1]; exact Below.heap_alloc _ _ _ hf.lt)
  have hq := fun (W : World) => run_eql_map_nil (P := Yba.prog) W 90 9 9 (some b) Yba.underlying90
  clear hrun
  rw [hW1] at c0 c3 e1 hr
  go_enter Yba.func35, Yba.ntmps35
  go_wp2
  first | go_end0 | refine bodyPost_ret (results_none rfl _ _ _) rfl ?_
  exact ⟨rfl, hnew _ (by have := hf.lt; simp; omega), ((Fr.refl _ _).alloc _).setMap _ _ (fun _ => rfl)⟩

set_option maxRecDepth 20000 in
set_option maxHeartbeats 400000 in
/-- the first value of a Map -/
theorem pput_new {w : World} {m : Nat} {n : Int} (h : Cow w m 93 none none n false false) (k : ByteArray) (sv : ByteArray) :
    Calls Yba.prog 35 #[.pointer (some ⟨m, 0, none⟩), .string k, .agg #[.string sv, .bool false]] w fun e w' => e = .returned (.tuple #[]) ∧ (∃ b, w.heap.size ≤ b ∧ Cow w' m 93 (some b) none n true false ∧ MapF w' b (fun j => if j = k then some (.string sv) else none)) ∧ Fr (· = m) w w' := by
  have hm0 : m < w.heap.size := h.lt
  obtain ⟨o, hrun, hnew⟩ := run_put Yba.underlying90 (based_map w m (.cells #[.string sv, .bool false] 111)) k (.string sv)
  have FIN : Hid _ := based_fin h (.cells #[.string sv, .bool false] 111) o hnew
  have hr := hrun (based w m (.cells #[.string sv, .bool false] 111)).drew rfl
  have c0 : w.cell? ⟨m, 0, none⟩ = some (.map none) := h.cell 0
  have c3 : w.cell? ⟨m, 3, none⟩ = some (.bool false) := h.cell 3
  have f0 : w.frozen? ⟨m, 0, none⟩ = false := h.frozen 0
  have f3 : w.frozen? ⟨m, 3, none⟩ = false := h.frozen 3
  have hq := fun (W : World) (r : Option Nat) => run_eql_map_nil (P := Yba.prog) W 90 9 9 r Yba.underlying90
  have hmm := @run_makeMap Yba.prog
  clear hrun hnew h
  go_enter Yba.func35, Yba.ntmps35
  go_wp2
  go_region
  go_wp2
  first | go_end0 | refine bodyPost_ret (results_none rfl _ _ _) rfl ?_
  exact ⟨rfl, FIN.out⟩

/-! ### put 36 -/
set_option maxRecDepth 20000 in
/-- its own base: a value -/
theorem cput_own {w : World} {m b : Nat} {n : Int} {f : ByteArray → Option Value} (h : Cow w m 88 (some b) none n true false) (hf : MapF w b f) (k : ByteArray) (sa : Option Addr) (sl sc : Nat) :
    Calls Yba.prog 36 #[.pointer (some ⟨m, 0, none⟩), .string k, .agg #[.slice sa sl sc, .bool false]] w fun e w' => e = .returned (.tuple #[]) ∧ MapF w' b (fun j => if j = k then some (.slice sa sl sc) else f j) ∧ Fr (· = b) w w' := by
  obtain ⟨o, hrun, hnew⟩ := run_put Yba.underlying85 hf k (.slice sa sl sc)
  obtain ⟨W1, hW1⟩ : ∃ W1, W1 = w.alloc (.cells #[.slice sa sl sc, .bool false] 114) := ⟨_, rfl⟩
  have hcow : Cow W1 m 88 (some b) none n true false := by rw [hW1]; exact h.alloc _
  have c0 : W1.cell? ⟨m, 0, none⟩ = some (.map (some b)) := hcow.cell 0
  have c3 : W1.cell? ⟨m, 3, none⟩ = some (.bool true) := hcow.cell 3
  have e0 : W1.cell? ⟨w.heap.size, 0, none⟩ = some (.slice sa sl sc) := by rw [hW1, World.cell?_alloc_at _ _ _ _ rfl]; rfl
  have e1 : W1.cell? ⟨w.heap.size, 1, none⟩ = some (.bool false) := by rw [hW1, World.cell?_alloc_at _ _ _ _ rfl]; rfl
  have hr := hrun W1.drew (by rw [hW1]; exact Below.heap_alloc _ _ _ hf.lt)
  have hq := fun (W : World) => run_eql_map_nil (P := Yba.prog) W 85 9 22 (some b) Yba.underlying85
  clear hrun
  rw [hW1] at c0 c3 e0 e1 hr
  go_enter Yba.func36, Yba.ntmps36
  go_wp2
  go_region
  go_wp2
  first | go_end0 | refine bodyPost_ret (results_none rfl _ _ _) rfl ?_
  exact ⟨rfl, hnew _ (by have := hf.lt; simp; omega), ((Fr.refl _ _).alloc _).drew.setMap _ _ (fun _ => rfl)⟩

set_option maxRecDepth 20000 in
/-- its own base: a delete -/
theorem cput_gone {w : World} {m b : Nat} {n : Int} {f : ByteArray → Option Value} (h : Cow w m 88 (some b) none n true false) (hf : MapF w b f) (k : ByteArray) :
    Calls Yba.prog 36 #[.pointer (some ⟨m, 0, none⟩), .string k, .agg #[(.slice none 0 0), .bool true]] w fun e w' => e = .returned (.tuple #[]) ∧ MapF w' b (fun j => if j = k then none else f j) ∧ Fr (· = b) w w' := by
  obtain ⟨o, hrun, hnew⟩ := run_del 0 9 Yba.underlying85 hf k
  obtain ⟨W1, hW1⟩ : ∃ W1, W1 = w.alloc (.cells #[(.slice none 0 0), .bool true] 114) := ⟨_, rfl⟩
  have hcow : Cow W1 m 88 (some b) none n true false := by rw [hW1]; exact h.alloc _
  have c0 : W1.cell? ⟨m, 0, none⟩ = some (.map (some b)) := hcow.cell 0
  have c3 : W1.cell? ⟨m, 3, none⟩ = some (.bool true) := hcow.cell 3
  have e1 : W1.cell? ⟨w.heap.size, 1, none⟩ = some (.bool true) := by rw [hW1, World.cell?_alloc_at _ _ _ _ rfl]; rfl
  have hr := hrun W1 (by rw [hW1]; exact Below.heap_alloc _ _ _ hf.lt)
  have hq := fun (W : World) => run_eql_map_nil (P := Yba.prog) W 85 9 22 (some b) Yba.underlying85
  clear hrun
  rw [hW1] at c0 c3 e1 hr
  go_enter Yba.func36, Yba.ntmps36
  go_wp2
  first | go_end0 | refine bodyPost_ret (results_none rfl _ _ _) rfl ?_
  exact ⟨rfl, hnew _ (by have := hf.lt; simp; omega), ((Fr.refl _ _).alloc _).setMap _ _ (fun _ => rfl)⟩

set_option maxRecDepth 20000 in
set_option maxHeartbeats 400000 in
/-- the first value of a Map -/
theorem cput_new {w : World} {m : Nat} {n : Int} (h : Cow w m 88 none none n false false) (k : ByteArray) (sa : Option Addr) (sl sc : Nat) :
    Calls Yba.prog 36 #[.pointer (some ⟨m, 0, none⟩), .string k, .agg #[.slice sa sl sc, .bool false]] w fun e w' => e = .returned (.tuple #[]) ∧ (∃ b, w.heap.size ≤ b ∧ Cow w' m 88 (some b) none n true false ∧ MapF w' b (fun j => if j = k then some (.slice sa sl sc) else none)) ∧ Fr (· = m) w w' := by
  have hm0 : m < w.heap.size := h.lt
  obtain ⟨o, hrun, hnew⟩ := run_put Yba.underlying85 (based_map w m (.cells #[.slice sa sl sc, .bool false] 114)) k (.slice sa sl sc)
  have FIN : Hid _ := based_fin h (.cells #[.slice sa sl sc, .bool false] 114) o hnew
  have hr := hrun (based w m (.cells #[.slice sa sl sc, .bool false] 114)).drew rfl
  have c0 : w.cell? ⟨m, 0, none⟩ = some (.map none) := h.cell 0
  have c3 : w.cell? ⟨m, 3, none⟩ = some (.bool false) := h.cell 3
  have f0 : w.frozen? ⟨m, 0, none⟩ = false := h.frozen 0
  have f3 : w.frozen? ⟨m, 3, none⟩ = false := h.frozen 3
  have hq := fun (W : World) (r : Option Nat) => run_eql_map_nil (P := Yba.prog) W 85 9 22 r Yba.underlying85
  have hmm := @run_makeMap Yba.prog
  clear hrun hnew h
  go_enter Yba.func36, Yba.ntmps36
  go_wp2
  go_region
  go_wp2
  first | go_end0 | refine bodyPost_ret (results_none rfl _ _ _) rfl ?_
  exact ⟨rfl, FIN.out⟩

end Go.Proofs.Ybulkeipw
