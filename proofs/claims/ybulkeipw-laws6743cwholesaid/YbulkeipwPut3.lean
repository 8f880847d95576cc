import Derived.Test.YbulkeipwPut
namespace Go.Proofs.Ybulkeipw
open Go.RowKit
set_option linter.unusedVariables false

/-- the world in which a shared Map gets its own changes -/
abbrev forked (w : World) (m : Nat) (O : Obj) : World := ((((w.setCell ⟨m, 1, none⟩ (.map none)).setCell ⟨m, 1, none⟩ (.map (some (w.heap.size + 1)))).setCell ⟨m, 4, none⟩ (.bool true)).alloc O).alloc (.map #[] 0)
theorem size_forked (w : World) (m : Nat) (O : Obj) : (forked w m O).heap.size = w.heap.size + 2 := by simp [World.setCell]
theorem forked_cow {w : World} {m b : Nat} {T : TypeId} {n : Int} (h : Cow w m T (some b) none n false false) (O : Obj) : Cow (forked w m O) m T (some b) (some (w.heap.size + 1)) n false true :=
  ((((h.setCell 1 (.map none)).setCell 1 (.map (some (w.heap.size + 1)))).setCell 4 (.bool true)).alloc O).alloc (.map #[] 0)
theorem forked_map (w : World) (m : Nat) (O : Obj) : MapF (forked w m O) (w.heap.size + 1) (fun _ => none) := by
  have := mapF_new ((((w.setCell ⟨m, 1, none⟩ (.map none)).setCell ⟨m, 1, none⟩ (.map (some (w.heap.size + 1)))).setCell ⟨m, 4, none⟩ (.bool true)).alloc O)
  rw [World.size_alloc, size_setCell, size_setCell, size_setCell] at this
  exact this
theorem forked_base {w : World} {b : Nat} {f : ByteArray → Option Value} (m : Nat) (O : Obj) (h : MapF w b f) : MapF (forked w m O) b f := ((((h.setCell _ _).setCell _ _).setCell _ _).alloc _).alloc _
theorem forked_fr (w : World) (m : Nat) (O : Obj) : Fr (· = m) w (forked w m O) :=
  (((((Fr.refl (· = m) w).setCell ⟨m, 1, none⟩ _ (fun _ => rfl)).setCell ⟨m, 1, none⟩ _ (fun _ => rfl)).setCell ⟨m, 4, none⟩ _ (fun _ => rfl)).alloc O).alloc _

set_option maxRecDepth 20000 in
set_option maxHeartbeats 600000 in
/-- the first change of a shared Map -/
theorem pput_fork {w : World} {m b : Nat} {n : Int} {f : ByteArray → Option Value} (h : Cow w m 93 (some b) none n false false) (hf : MapF w b f) (hsome : ∃ j, (f j).isSome = true) (k : ByteArray) (sv : ByteArray) (d : Bool) :
    Calls Yba.prog 35 #[.pointer (some ⟨m, 0, none⟩), .string k, .agg #[.string sv, .bool d]] w fun e w' => e = .returned (.tuple #[]) ∧ (∃ c, w.heap.size ≤ c ∧ Cow w' m 93 (some b) (some c) n false true ∧ MapF w' c (pone k (.string sv) d)) ∧ Fr (· = m) w w' := by
  have hm0 : m < w.heap.size := h.lt
  have hb0 : b < w.heap.size := hf.lt
  obtain ⟨o, hrun, hnew⟩ := run_put Yba.underlying91 (forked_map w m (.cells #[.string sv, .bool d] 111)) k (.agg #[.string sv, .bool d])
  obtain ⟨FW, hFW⟩ : ∃ FW, FW = setMap (forked w m (.cells #[.string sv, .bool d] 111)).drew (w.heap.size + 1) o := ⟨_, rfl⟩
  have fc : Cow FW m 93 (some b) (some (w.heap.size + 1)) n false true := by
    rw [hFW]; refine (forked_cow h (.cells #[.string sv, .bool d] 111)).congr ?_
    rw [heap_setMap_ne _ _ _ _ (by omega)]; rfl
  have fm : MapF FW (w.heap.size + 1) (pone k (.string sv) d) := by
    rw [hFW]; exact hnew _ (by show _ < (forked w m _).heap.size; rw [size_forked]; omega)
  have fb : MapF FW b f := by
    rw [hFW]; refine (forked_base m (.cells #[.string sv, .bool d] 111) hf).congr ?_
    rw [heap_setMap_ne _ _ _ _ (by omega)]; rfl
  have ff : Fr (· = m) w FW := by rw [hFW]; exact ((forked_fr w m _).drew).setMap _ _ (fun e => by omega)
  have hr := hrun (forked w m (.cells #[.string sv, .bool d] 111)).drew rfl
  rw [← hFW] at hr
  obtain ⟨n1, hl1, h1a, h1b⟩ := run_len (w := FW) 3 Yba.underlying91 fm
  obtain rfl : n1 = 1 := by
    have h1 := h1a ⟨k, by simp [pone]⟩
    have h2 := h1b ⟨k, fun j hj => by by_cases e : j = k <;> simp_all [pone]⟩
    omega
  obtain ⟨n2, hl2, h2a, _⟩ := run_len (w := FW) 3 Yba.underlying90 fb
  have hn2 : 1 ≤ n2 := h2a hsome
  have hl1' := hl1 FW rfl
  have hl2' := hl2 FW rfl
  have k0 : FW.cell? ⟨m, 0, none⟩ = some (.map (some b)) := fc.cell 0
  have k1 : FW.cell? ⟨m, 1, none⟩ = some (.map (some (w.heap.size + 1))) := fc.cell 1
  have FIN : Hid ((∃ c, w.heap.size ≤ c ∧ Cow FW m 93 (some b) (some c) n false true ∧ MapF FW c (pone k (.string sv) d)) ∧ Fr (· = m) w FW) := ⟨⟨w.heap.size + 1, by omega, fc, fm⟩, ff⟩
  have c0 : w.cell? ⟨m, 0, none⟩ = some (.map (some b)) := h.cell 0
  have c1 : w.cell? ⟨m, 1, none⟩ = some (.map none) := h.cell 1
  have c3 : w.cell? ⟨m, 3, none⟩ = some (.bool false) := h.cell 3
  have c4 : w.cell? ⟨m, 4, none⟩ = some (.bool false) := h.cell 4
  have f1 : w.frozen? ⟨m, 1, none⟩ = false := h.frozen 1
  have f4 : w.frozen? ⟨m, 4, none⟩ = false := h.frozen 4
  have hq := fun (W : World) (r : Option Nat) => run_eql_map_nil (P := Yba.prog) W 90 9 9 r Yba.underlying90
  have hq2 := fun (W : World) (r : Option Nat) => run_eql_map_nil (P := Yba.prog) W 91 9 111 r Yba.underlying91
  have hmm := @run_makeMap Yba.prog
  have t1 : decide ((n2 : Int) < 1) = false := by simp; omega
  clear hrun hnew h hf hsome fc fm fb ff hl1 hl2 h1a h1b h2a hFW
  go_enter Yba.func35, Yba.ntmps35
  go_wp2
  go_region
  go_wp2
  first | go_end0 | refine bodyPost_ret (results_none rfl _ _ _) rfl ?_
  exact ⟨rfl, FIN.out⟩

set_option maxRecDepth 20000 in
set_option maxHeartbeats 600000 in
/-- a further change at the one changed key -/
theorem pput_again {w : World} {m b c : Nat} {n : Int} {f : ByteArray → Option Value} {V0 : Value} {d0 : Bool} {k : ByteArray} (h : Cow w m 93 (some b) (some c) n false true) (hf : MapF w b f) (hc : MapF w c (pone k V0 d0)) (hbc : b ≠ c) (hsome : ∃ j, (f j).isSome = true) (sv : ByteArray) (d : Bool) :
    Calls Yba.prog 35 #[.pointer (some ⟨m, 0, none⟩), .string k, .agg #[.string sv, .bool d]] w fun e w' => e = .returned (.tuple #[]) ∧ MapF w' c (pone k (.string sv) d) ∧ Fr (· = c) w w' := by
  have hm0 : m < w.heap.size := h.lt
  have hmc : m ≠ c := h.ne_map hc
  obtain ⟨W1, hW1⟩ : ∃ W1, W1 = (w.alloc (.cells #[.string sv, .bool d] 111)).drew := ⟨_, rfl⟩
  have e1 : ∀ j, j < w.heap.size → W1.heap[j]? = w.heap[j]? := fun j hj => by rw [hW1]; exact Below.heap_alloc _ _ _ hj
  obtain ⟨o, hrun, hnew⟩ := run_put Yba.underlying91 hc k (.agg #[.string sv, .bool d])
  obtain ⟨FW, hFW⟩ : ∃ FW, FW = setMap W1 c o := ⟨_, rfl⟩
  have fc : Cow FW m 93 (some b) (some c) n false true := by
    rw [hFW]; refine h.congr ?_
    rw [heap_setMap_ne _ _ _ _ hmc, e1 _ hm0]
  have fm : MapF FW c (pone k (.string sv) d) := by
    have := hnew W1 (by rw [hW1]; have := hc.lt; show _ < (World.alloc _ _).heap.size; simp; omega)
    rw [hFW]
    obtain ⟨es, cl, L, q1, q2, q3, q4⟩ := this
    exact ⟨es, cl, L, q1, q2, q3, fun j => by rw [q4]; by_cases e : j = k <;> simp [pone, e]⟩
  have fb : MapF FW b f := by
    rw [hFW]; refine hf.congr ?_
    rw [heap_setMap_ne _ _ _ _ hbc, e1 _ hf.lt]
  have ff : Fr (· = c) w FW := by rw [hFW, hW1]; exact (((Fr.refl (· = c) w).alloc _).drew).setMap _ _ (fun _ => rfl)
  have hr := hrun W1 (e1 _ hc.lt)
  rw [← hFW, hW1] at hr
  obtain ⟨n1, hl1, h1a, h1b⟩ := run_len (w := FW) 3 Yba.underlying91 fm
  obtain rfl : n1 = 1 := by
    have h1 := h1a ⟨k, by simp [pone]⟩
    have h2 := h1b ⟨k, fun j hj => by by_cases e : j = k <;> simp_all [pone]⟩
    omega
  obtain ⟨n2, hl2, h2a, _⟩ := run_len (w := FW) 3 Yba.underlying90 fb
  have hn2 : 1 ≤ n2 := h2a hsome
  have hl1' := hl1 FW rfl
  have hl2' := hl2 FW rfl
  have k0 : FW.cell? ⟨m, 0, none⟩ = some (.map (some b)) := fc.cell 0
  have k1 : FW.cell? ⟨m, 1, none⟩ = some (.map (some c)) := fc.cell 1
  have FIN : Hid (MapF FW c (pone k (.string sv) d) ∧ Fr (· = c) w FW) := ⟨fm, ff⟩
  have c0 : w.cell? ⟨m, 0, none⟩ = some (.map (some b)) := h.cell 0
  have c1 : w.cell? ⟨m, 1, none⟩ = some (.map (some c)) := h.cell 1
  have c3 : w.cell? ⟨m, 3, none⟩ = some (.bool false) := h.cell 3
  have c4 : w.cell? ⟨m, 4, none⟩ = some (.bool true) := h.cell 4
  have hq := fun (W : World) (r : Option Nat) => run_eql_map_nil (P := Yba.prog) W 90 9 9 r Yba.underlying90
  have t1 : decide ((n2 : Int) < 1) = false := by simp; omega
  clear hrun hnew h hf hc hsome fc fm fb ff hl1 hl2 h1a h1b h2a hFW e1 hW1 hmc hbc
  go_enter Yba.func35, Yba.ntmps35
  go_wp2
  go_region
  go_wp2
  first | go_end0 | refine bodyPost_ret (results_none rfl _ _ _) rfl ?_
  exact ⟨rfl, FIN.out⟩

set_option maxRecDepth 20000 in
set_option maxHeartbeats 600000 in
/-- the first change of a shared Map -/
theorem cput_fork {w : World} {m b : Nat} {n : Int} {f : ByteArray → Option Value} (h : Cow w m 88 (some b) none n false false) (hf : MapF w b f) (hsome : ∃ j, (f j).isSome = true) (k : ByteArray) (sa : Option Addr) (sl sc : Nat) (d : Bool) :
    Calls Yba.prog 36 #[.pointer (some ⟨m, 0, none⟩), .string k, .agg #[.slice sa sl sc, .bool d]] w fun e w' => e = .returned (.tuple #[]) ∧ (∃ c, w.heap.size ≤ c ∧ Cow w' m 88 (some b) (some c) n false true ∧ MapF w' c (cone k (.slice sa sl sc) d)) ∧ Fr (· = m) w w' := by
  have hm0 : m < w.heap.size := h.lt
  have hb0 : b < w.heap.size := hf.lt
  obtain ⟨o, hrun, hnew⟩ := run_put Yba.underlying86 (forked_map w m (.cells #[.slice sa sl sc, .bool d] 114)) k (.agg #[.slice sa sl sc, .bool d])
  obtain ⟨FW, hFW⟩ : ∃ FW, FW = setMap (forked w m (.cells #[.slice sa sl sc, .bool d] 114)).drew (w.heap.size + 1) o := ⟨_, rfl⟩
  have fc : Cow FW m 88 (some b) (some (w.heap.size + 1)) n false true := by
    rw [hFW]; refine (forked_cow h (.cells #[.slice sa sl sc, .bool d] 114)).congr ?_
    rw [heap_setMap_ne _ _ _ _ (by omega)]; rfl
  have fm : MapF FW (w.heap.size + 1) (cone k (.slice sa sl sc) d) := by
    rw [hFW]; exact hnew _ (by show _ < (forked w m _).heap.size; rw [size_forked]; omega)
  have fb : MapF FW b f := by
    rw [hFW]; refine (forked_base m (.cells #[.slice sa sl sc, .bool d] 114) hf).congr ?_
    rw [heap_setMap_ne _ _ _ _ (by omega)]; rfl
  have ff : Fr (· = m) w FW := by rw [hFW]; exact ((forked_fr w m _).drew).setMap _ _ (fun e => by omega)
  have hr := hrun (forked w m (.cells #[.slice sa sl sc, .bool d] 114)).drew rfl
  rw [← hFW] at hr
  obtain ⟨n1, hl1, h1a, h1b⟩ := run_len (w := FW) 3 Yba.underlying86 fm
  obtain rfl : n1 = 1 := by
    have h1 := h1a ⟨k, by simp [cone]⟩
    have h2 := h1b ⟨k, fun j hj => by by_cases e : j = k <;> simp_all [cone]⟩
    omega
  obtain ⟨n2, hl2, h2a, _⟩ := run_len (w := FW) 3 Yba.underlying85 fb
  have hn2 : 1 ≤ n2 := h2a hsome
  have hl1' := hl1 FW rfl
  have hl2' := hl2 FW rfl
  have k0 : FW.cell? ⟨m, 0, none⟩ = some (.map (some b)) := fc.cell 0
  have k1 : FW.cell? ⟨m, 1, none⟩ = some (.map (some (w.heap.size + 1))) := fc.cell 1
  have FIN : Hid ((∃ c, w.heap.size ≤ c ∧ Cow FW m 88 (some b) (some c) n false true ∧ MapF FW c (cone k (.slice sa sl sc) d)) ∧ Fr (· = m) w FW) := ⟨⟨w.heap.size + 1, by omega, fc, fm⟩, ff⟩
  have c0 : w.cell? ⟨m, 0, none⟩ = some (.map (some b)) := h.cell 0
  have c1 : w.cell? ⟨m, 1, none⟩ = some (.map none) := h.cell 1
  have c3 : w.cell? ⟨m, 3, none⟩ = some (.bool false) := h.cell 3
  have c4 : w.cell? ⟨m, 4, none⟩ = some (.bool false) := h.cell 4
  have f1 : w.frozen? ⟨m, 1, none⟩ = false := h.frozen 1
  have f4 : w.frozen? ⟨m, 4, none⟩ = false := h.frozen 4
  have hq := fun (W : World) (r : Option Nat) => run_eql_map_nil (P := Yba.prog) W 85 9 22 r Yba.underlying85
  have hq2 := fun (W : World) (r : Option Nat) => run_eql_map_nil (P := Yba.prog) W 86 9 114 r Yba.underlying86
  have hmm := @run_makeMap Yba.prog
  have t1 : decide ((n2 : Int) < 1) = false := by simp; omega
  clear hrun hnew h hf hsome fc fm fb ff hl1 hl2 h1a h1b h2a hFW
  go_enter Yba.func36, Yba.ntmps36
  go_wp2
  go_region
  go_wp2
  first | go_end0 | refine bodyPost_ret (results_none rfl _ _ _) rfl ?_
  exact ⟨rfl, FIN.out⟩

set_option maxRecDepth 20000 in
set_option maxHeartbeats 600000 in
/-- a further change at the one changed key -/
theorem cput_again {w : World} {m b c : Nat} {n : Int} {f : ByteArray → Option Value} {V0 : Value} {d0 : Bool} {k : ByteArray} (h : Cow w m 88 (some b) (some c) n false true) (hf : MapF w b f) (hc : MapF w c (cone k V0 d0)) (hbc : b ≠ c) (hsome : ∃ j, (f j).isSome = true) (sa : Option Addr) (sl sc : Nat) (d : Bool) :
    Calls Yba.prog 36 #[.pointer (some ⟨m, 0, none⟩), .string k, .agg #[.slice sa sl sc, .bool d]] w fun e w' => e = .returned (.tuple #[]) ∧ MapF w' c (cone k (.slice sa sl sc) d) ∧ Fr (· = c) w w' := by
  have hm0 : m < w.heap.size := h.lt
  have hmc : m ≠ c := h.ne_map hc
  obtain ⟨W1, hW1⟩ : ∃ W1, W1 = (w.alloc (.cells #[.slice sa sl sc, .bool d] 114)).drew := ⟨_, rfl⟩
  have e1 : ∀ j, j < w.heap.size → W1.heap[j]? = w.heap[j]? := fun j hj => by rw [hW1]; exact Below.heap_alloc _ _ _ hj
  obtain ⟨o, hrun, hnew⟩ := run_put Yba.underlying86 hc k (.agg #[.slice sa sl sc, .bool d])
  obtain ⟨FW, hFW⟩ : ∃ FW, FW = setMap W1 c o := ⟨_, rfl⟩
  have fc : Cow FW m 88 (some b) (some c) n false true := by
    rw [hFW]; refine h.congr ?_
    rw [heap_setMap_ne _ _ _ _ hmc, e1 _ hm0]
  have fm : MapF FW c (cone k (.slice sa sl sc) d) := by
    have := hnew W1 (by rw [hW1]; have := hc.lt; show _ < (World.alloc _ _).heap.size; simp; omega)
    rw [hFW]
    obtain ⟨es, cl, L, q1, q2, q3, q4⟩ := this
    exact ⟨es, cl, L, q1, q2, q3, fun j => by rw [q4]; by_cases e : j = k <;> simp [cone, e]⟩
  have fb : MapF FW b f := by
    rw [hFW]; refine hf.congr ?_
    rw [heap_setMap_ne _ _ _ _ hbc, e1 _ hf.lt]
  have ff : Fr (· = c) w FW := by rw [hFW, hW1]; exact (((Fr.refl (· = c) w).alloc _).drew).setMap _ _ (fun _ => rfl)
  have hr := hrun W1 (e1 _ hc.lt)
  rw [← hFW, hW1] at hr
  obtain ⟨n1, hl1, h1a, h1b⟩ := run_len (w := FW) 3 Yba.underlying86 fm
  obtain rfl : n1 = 1 := by
    have h1 := h1a ⟨k, by simp [cone]⟩
    have h2 := h1b ⟨k, fun j hj => by by_cases e : j = k <;> simp_all [cone]⟩
    omega
  obtain ⟨n2, hl2, h2a, _⟩ := run_len (w := FW) 3 Yba.underlying85 fb
  have hn2 : 1 ≤ n2 := h2a hsome
  have hl1' := hl1 FW rfl
  have hl2' := hl2 FW rfl
  have k0 : FW.cell? ⟨m, 0, none⟩ = some (.map (some b)) := fc.cell 0
  have k1 : FW.cell? ⟨m, 1, none⟩ = some (.map (some c)) := fc.cell 1
  have FIN : Hid (MapF FW c (cone k (.slice sa sl sc) d) ∧ Fr (· = c) w FW) := ⟨fm, ff⟩
  have c0 : w.cell? ⟨m, 0, none⟩ = some (.map (some b)) := h.cell 0
  have c1 : w.cell? ⟨m, 1, none⟩ = some (.map (some c)) := h.cell 1
  have c3 : w.cell? ⟨m, 3, none⟩ = some (.bool false) := h.cell 3
  have c4 : w.cell? ⟨m, 4, none⟩ = some (.bool true) := h.cell 4
  have hq := fun (W : World) (r : Option Nat) => run_eql_map_nil (P := Yba.prog) W 85 9 22 r Yba.underlying85
  have t1 : decide ((n2 : Int) < 1) = false := by simp; omega
  clear hrun hnew h hf hc hsome fc fm fb ff hl1 hl2 h1a h1b h2a hFW e1 hW1 hmc hbc
  go_enter Yba.func36, Yba.ntmps36
  go_wp2
  go_region
  go_wp2
  first | go_end0 | refine bodyPost_ret (results_none rfl _ _ _) rfl ?_
  exact ⟨rfl, FIN.out⟩

end Go.Proofs.Ybulkeipw
