import Derived.Test.YbulkeipwSet
namespace Go.Proofs.Ybulkeipw
open Go.RowKit
set_option linter.unusedVariables false

/-! ### own 10, Clone 29 -/
set_option maxRecDepth 20000 in
theorem clone29 {w : World} {m : Nat} {b c : Option Nat} {n : Int} {ob oc : Bool} (h : Cow w m 83 b c n ob oc) :
    Calls Yba.prog 29 #[.pointer (some ⟨m, 0, none⟩)] w fun e w' => e = .returned (.pointer (some ⟨w.heap.size, 0, none⟩)) ∧ w'.heap.size = w.heap.size + 1 ∧ Cow w' m 83 b c n false false ∧ Cow w' w.heap.size 83 b c n false false ∧ Fr (fun x => x = m) w w' := by
  have hm0 : m < w.heap.size := h.lt
  have c0 : w.cell? ⟨m, 0, none⟩ = some (.map b) := h.cell 0
  have c1 : w.cell? ⟨m, 1, none⟩ = some (.map c) := h.cell 1
  have c2 : w.cell? ⟨m, 2, none⟩ = some (.int .i64 n) := h.cell 2
  have c3 : w.cell? ⟨m, 3, none⟩ = some (.bool ob) := h.cell 3
  have c4 : w.cell? ⟨m, 4, none⟩ = some (.bool oc) := h.cell 4
  have f3 : w.frozen? ⟨m, 3, none⟩ = false := h.frozen 3
  have f4 : w.frozen? ⟨m, 4, none⟩ = false := h.frozen 4
  have FIN : Hid (∀ q : Nat, (((((w.setCell ⟨m, 3, none⟩ (.bool false)).setCell ⟨m, 4, none⟩ (.bool false)).alloc (.cells #[.map b, .map c, .int .i64 n, .bool false, .bool false] 83)).drewN q).heap.size = w.heap.size + 1 ∧ Cow ((((w.setCell ⟨m, 3, none⟩ (.bool false)).setCell ⟨m, 4, none⟩ (.bool false)).alloc (.cells #[.map b, .map c, .int .i64 n, .bool false, .bool false] 83)).drewN q) m 83 b c n false false ∧ Cow ((((w.setCell ⟨m, 3, none⟩ (.bool false)).setCell ⟨m, 4, none⟩ (.bool false)).alloc (.cells #[.map b, .map c, .int .i64 n, .bool false, .bool false] 83)).drewN q) w.heap.size 83 b c n false false ∧ Fr (fun x => x = m) w ((((w.setCell ⟨m, 3, none⟩ (.bool false)).setCell ⟨m, 4, none⟩ (.bool false)).alloc (.cells #[.map b, .map c, .int .i64 n, .bool false, .bool false] 83)).drewN q))) := fun q =>
    ⟨by show (World.alloc _ _).heap.size = _; simp [World.setCell], ((Blk.setCell h 3 (.bool false)).setCell 4 (.bool false)).alloc _, by
      have := blk_new ((w.setCell ⟨m, 3, none⟩ (.bool false)).setCell ⟨m, 4, none⟩ (.bool false)) #[.map b, .map c, .int .i64 n, .bool false, .bool false] 83
      rw [size_setCell, size_setCell] at this
      exact this, ((((Fr.refl (fun x => x = m) w).setCell ⟨m, 3, none⟩ _ (fun _ => rfl)).setCell ⟨m, 4, none⟩ _ (fun _ => rfl)).alloc _).drewN q⟩
  clear h
  go_enter Yba.func29, Yba.ntmps29
  go_wp2
  go_region
  all_goals go_wp2
  all_goals go_ret
  all_goals exact ⟨rfl, FIN.out 1⟩

set_option maxRecDepth 20000 in
theorem own10_false {w : World} {wb i : Nat} {cs : Array Value} {v : Value} (h : Blk w wb cs 38) (hi : cs[i]? = some v) :
    Calls Yba.prog 10 #[.pointer (some ⟨wb, i, none⟩), .bool false] w fun e w' => e = .returned (.tuple #[]) ∧ w'.heap.size = w.heap.size + 1 ∧ Blk w' wb (cs.setIfInBounds i (.pointer (some ⟨w.heap.size, 0, none⟩))) 38 ∧ Cow w' w.heap.size 83 none none 0 false false ∧ Fr (fun x => x = wb) w w' := by
  have hm0 : wb < w.heap.size := h.lt
  have c0 : w.cell? ⟨wb, i, none⟩ = some v := (h.cell i).trans hi
  have f0 : w.frozen? ⟨wb, i, none⟩ = false := h.frozen i
  have FIN : Hid (((w.setCell ⟨wb, i, none⟩ (.pointer (some ⟨w.heap.size, 0, none⟩))).alloc (.cells #[.map none, .map none, .int .i64 0, .bool false, .bool false] 83)).heap.size = w.heap.size + 1 ∧ Blk ((w.setCell ⟨wb, i, none⟩ (.pointer (some ⟨w.heap.size, 0, none⟩))).alloc (.cells #[.map none, .map none, .int .i64 0, .bool false, .bool false] 83)) wb (cs.setIfInBounds i (.pointer (some ⟨w.heap.size, 0, none⟩))) 38 ∧ Cow ((w.setCell ⟨wb, i, none⟩ (.pointer (some ⟨w.heap.size, 0, none⟩))).alloc (.cells #[.map none, .map none, .int .i64 0, .bool false, .bool false] 83)) w.heap.size 83 none none 0 false false ∧ Fr (fun x => x = wb) w ((w.setCell ⟨wb, i, none⟩ (.pointer (some ⟨w.heap.size, 0, none⟩))).alloc (.cells #[.map none, .map none, .int .i64 0, .bool false, .bool false] 83))) :=
    ⟨by simp [World.setCell], (Blk.setCell h i _).alloc _, by
      have := blk_new (w.setCell ⟨wb, i, none⟩ (.pointer (some ⟨w.heap.size, 0, none⟩))) #[.map none, .map none, .int .i64 0, .bool false, .bool false] 83
      rw [size_setCell] at this
      exact this, ((Fr.refl (fun x => x = wb) w).setCell ⟨wb, i, none⟩ _ (fun _ => rfl)).alloc _⟩
  clear h
  go_enter Yba.func10, Yba.ntmps10
  go_wp2
  first | go_end0 | refine bodyPost_ret (results_none rfl _ _ _) rfl ?_
  exact ⟨rfl, FIN.out⟩

set_option maxRecDepth 20000 in
theorem own10_true {w : World} {wb i p : Nat} {cs : Array Value} {b c : Option Nat} {n : Int} {ob oc : Bool} (h : Blk w wb cs 38) (hi : cs[i]? = some (.pointer (some ⟨p, 0, none⟩))) (hp : Cow w p 83 b c n ob oc) :
    Calls Yba.prog 10 #[.pointer (some ⟨wb, i, none⟩), .bool true] w fun e w' => e = .returned (.tuple #[]) ∧ w'.heap.size = w.heap.size + 1 ∧ Blk w' wb (cs.setIfInBounds i (.pointer (some ⟨w.heap.size, 0, none⟩))) 38 ∧ Cow w' p 83 b c n false false ∧ Cow w' w.heap.size 83 b c n false false ∧ Fr (fun x => x = wb ∨ x = p) w w' := by
  have hm0 : wb < w.heap.size := h.lt
  have hp0 : p < w.heap.size := Blk.lt hp
  have hne : wb ≠ p := h.ne hp (by decide)
  have c0 : w.cell? ⟨wb, i, none⟩ = some (.pointer (some ⟨p, 0, none⟩)) := (h.cell i).trans hi
  go_enter Yba.func10, Yba.ntmps10
  go_wp2_with fail
  refine (clone29 hp).mono ?_
  rintro e w1 ⟨rfl, hs1, hc1, hc2, hfr⟩
  have hb1 : Blk w1 wb cs 38 := h.fr hfr hne
  have c01 : w1.cell? ⟨wb, i, none⟩ = some (.pointer (some ⟨p, 0, none⟩)) := (hb1.cell i).trans hi
  have f01 : w1.frozen? ⟨wb, i, none⟩ = false := hb1.frozen i
  have FIN : Hid ((w1.setCell ⟨wb, i, none⟩ (.pointer (some ⟨w.heap.size, 0, none⟩))).heap.size = w.heap.size + 1 ∧ Blk (w1.setCell ⟨wb, i, none⟩ (.pointer (some ⟨w.heap.size, 0, none⟩))) wb (cs.setIfInBounds i (.pointer (some ⟨w.heap.size, 0, none⟩))) 38 ∧ Cow (w1.setCell ⟨wb, i, none⟩ (.pointer (some ⟨w.heap.size, 0, none⟩))) p 83 b c n false false ∧ Cow (w1.setCell ⟨wb, i, none⟩ (.pointer (some ⟨w.heap.size, 0, none⟩))) w.heap.size 83 b c n false false ∧ Fr (fun x => x = wb ∨ x = p) w (w1.setCell ⟨wb, i, none⟩ (.pointer (some ⟨w.heap.size, 0, none⟩)))) :=
    ⟨by rw [size_setCell]; exact hs1, hb1.setCell i _, Blk.setCell_ne hc1 _ _ (fun e => hne e.symm), Blk.setCell_ne hc2 _ _ (fun e => by simp at e; omega), (hfr.mono (fun x _ hx => .inr hx)).setCell ⟨wb, i, none⟩ _ (fun _ => .inl rfl)⟩
  clear hb1 hc1 hc2 hfr h hp c0 hs1
  go_wp2
  first | go_end0 | refine bodyPost_ret (results_none rfl _ _ _) rfl ?_
  exact ⟨rfl, FIN.out⟩

/-! ### own 11, Clone 30 -/
set_option maxRecDepth 20000 in
theorem clone30 {w : World} {m : Nat} {b c : Option Nat} {n : Int} {ob oc : Bool} (h : Cow w m 88 b c n ob oc) :
    Calls Yba.prog 30 #[.pointer (some ⟨m, 0, none⟩)] w fun e w' => e = .returned (.pointer (some ⟨w.heap.size, 0, none⟩)) ∧ w'.heap.size = w.heap.size + 1 ∧ Cow w' m 88 b c n false false ∧ Cow w' w.heap.size 88 b c n false false ∧ Fr (fun x => x = m) w w' := by
  have hm0 : m < w.heap.size := h.lt
  have c0 : w.cell? ⟨m, 0, none⟩ = some (.map b) := h.cell 0
  have c1 : w.cell? ⟨m, 1, none⟩ = some (.map c) := h.cell 1
  have c2 : w.cell? ⟨m, 2, none⟩ = some (.int .i64 n) := h.cell 2
  have c3 : w.cell? ⟨m, 3, none⟩ = some (.bool ob) := h.cell 3
  have c4 : w.cell? ⟨m, 4, none⟩ = some (.bool oc) := h.cell 4
  have f3 : w.frozen? ⟨m, 3, none⟩ = false := h.frozen 3
  have f4 : w.frozen? ⟨m, 4, none⟩ = false := h.frozen 4
  have FIN : Hid (∀ q : Nat, (((((w.setCell ⟨m, 3, none⟩ (.bool false)).setCell ⟨m, 4, none⟩ (.bool false)).alloc (.cells #[.map b, .map c, .int .i64 n, .bool false, .bool false] 88)).drewN q).heap.size = w.heap.size + 1 ∧ Cow ((((w.setCell ⟨m, 3, none⟩ (.bool false)).setCell ⟨m, 4, none⟩ (.bool false)).alloc (.cells #[.map b, .map c, .int .i64 n, .bool false, .bool false] 88)).drewN q) m 88 b c n false false ∧ Cow ((((w.setCell ⟨m, 3, none⟩ (.bool false)).setCell ⟨m, 4, none⟩ (.bool false)).alloc (.cells #[.map b, .map c, .int .i64 n, .bool false, .bool false] 88)).drewN q) w.heap.size 88 b c n false false ∧ Fr (fun x => x = m) w ((((w.setCell ⟨m, 3, none⟩ (.bool false)).setCell ⟨m, 4, none⟩ (.bool false)).alloc (.cells #[.map b, .map c, .int .i64 n, .bool false, .bool false] 88)).drewN q))) := fun q =>
    ⟨by show (World.alloc _ _).heap.size = _; simp [World.setCell], ((Blk.setCell h 3 (.bool false)).setCell 4 (.bool false)).alloc _, by
      have := blk_new ((w.setCell ⟨m, 3, none⟩ (.bool false)).setCell ⟨m, 4, none⟩ (.bool false)) #[.map b, .map c, .int .i64 n, .bool false, .bool false] 88
      rw [size_setCell, size_setCell] at this
      exact this, ((((Fr.refl (fun x => x = m) w).setCell ⟨m, 3, none⟩ _ (fun _ => rfl)).setCell ⟨m, 4, none⟩ _ (fun _ => rfl)).alloc _).drewN q⟩
  clear h
  go_enter Yba.func30, Yba.ntmps30
  go_wp2
  go_region
  all_goals go_wp2
  all_goals go_ret
  all_goals exact ⟨rfl, FIN.out 1⟩

set_option maxRecDepth 20000 in
theorem own11_false {w : World} {wb i : Nat} {cs : Array Value} {v : Value} (h : Blk w wb cs 38) (hi : cs[i]? = some v) :
    Calls Yba.prog 11 #[.pointer (some ⟨wb, i, none⟩), .bool false] w fun e w' => e = .returned (.tuple #[]) ∧ w'.heap.size = w.heap.size + 1 ∧ Blk w' wb (cs.setIfInBounds i (.pointer (some ⟨w.heap.size, 0, none⟩))) 38 ∧ Cow w' w.heap.size 88 none none 0 false false ∧ Fr (fun x => x = wb) w w' := by
  have hm0 : wb < w.heap.size := h.lt
  have c0 : w.cell? ⟨wb, i, none⟩ = some v := (h.cell i).trans hi
  have f0 : w.frozen? ⟨wb, i, none⟩ = false := h.frozen i
  have FIN : Hid (((w.setCell ⟨wb, i, none⟩ (.pointer (some ⟨w.heap.size, 0, none⟩))).alloc (.cells #[.map none, .map none, .int .i64 0, .bool false, .bool false] 88)).heap.size = w.heap.size + 1 ∧ Blk ((w.setCell ⟨wb, i, none⟩ (.pointer (some ⟨w.heap.size, 0, none⟩))).alloc (.cells #[.map none, .map none, .int .i64 0, .bool false, .bool false] 88)) wb (cs.setIfInBounds i (.pointer (some ⟨w.heap.size, 0, none⟩))) 38 ∧ Cow ((w.setCell ⟨wb, i, none⟩ (.pointer (some ⟨w.heap.size, 0, none⟩))).alloc (.cells #[.map none, .map none, .int .i64 0, .bool false, .bool false] 88)) w.heap.size 88 none none 0 false false ∧ Fr (fun x => x = wb) w ((w.setCell ⟨wb, i, none⟩ (.pointer (some ⟨w.heap.size, 0, none⟩))).alloc (.cells #[.map none, .map none, .int .i64 0, .bool false, .bool false] 88))) :=
    ⟨by simp [World.setCell], (Blk.setCell h i _).alloc _, by
      have := blk_new (w.setCell ⟨wb, i, none⟩ (.pointer (some ⟨w.heap.size, 0, none⟩))) #[.map none, .map none, .int .i64 0, .bool false, .bool false] 88
      rw [size_setCell] at this
      exact this, ((Fr.refl (fun x => x = wb) w).setCell ⟨wb, i, none⟩ _ (fun _ => rfl)).alloc _⟩
  clear h
  go_enter Yba.func11, Yba.ntmps11
  go_wp2
  first | go_end0 | refine bodyPost_ret (results_none rfl _ _ _) rfl ?_
  exact ⟨rfl, FIN.out⟩

set_option maxRecDepth 20000 in
theorem own11_true {w : World} {wb i p : Nat} {cs : Array Value} {b c : Option Nat} {n : Int} {ob oc : Bool} (h : Blk w wb cs 38) (hi : cs[i]? = some (.pointer (some ⟨p, 0, none⟩))) (hp : Cow w p 88 b c n ob oc) :
    Calls Yba.prog 11 #[.pointer (some ⟨wb, i, none⟩), .bool true] w fun e w' => e = .returned (.tuple #[]) ∧ w'.heap.size = w.heap.size + 1 ∧ Blk w' wb (cs.setIfInBounds i (.pointer (some ⟨w.heap.size, 0, none⟩))) 38 ∧ Cow w' p 88 b c n false false ∧ Cow w' w.heap.size 88 b c n false false ∧ Fr (fun x => x = wb ∨ x = p) w w' := by
  have hm0 : wb < w.heap.size := h.lt
  have hp0 : p < w.heap.size := Blk.lt hp
  have hne : wb ≠ p := h.ne hp (by decide)
  have c0 : w.cell? ⟨wb, i, none⟩ = some (.pointer (some ⟨p, 0, none⟩)) := (h.cell i).trans hi
  go_enter Yba.func11, Yba.ntmps11
  go_wp2_with fail
  refine (clone30 hp).mono ?_
  rintro e w1 ⟨rfl, hs1, hc1, hc2, hfr⟩
  have hb1 : Blk w1 wb cs 38 := h.fr hfr hne
  have c01 : w1.cell? ⟨wb, i, none⟩ = some (.pointer (some ⟨p, 0, none⟩)) := (hb1.cell i).trans hi
  have f01 : w1.frozen? ⟨wb, i, none⟩ = false := hb1.frozen i
  have FIN : Hid ((w1.setCell ⟨wb, i, none⟩ (.pointer (some ⟨w.heap.size, 0, none⟩))).heap.size = w.heap.size + 1 ∧ Blk (w1.setCell ⟨wb, i, none⟩ (.pointer (some ⟨w.heap.size, 0, none⟩))) wb (cs.setIfInBounds i (.pointer (some ⟨w.heap.size, 0, none⟩))) 38 ∧ Cow (w1.setCell ⟨wb, i, none⟩ (.pointer (some ⟨w.heap.size, 0, none⟩))) p 88 b c n false false ∧ Cow (w1.setCell ⟨wb, i, none⟩ (.pointer (some ⟨w.heap.size, 0, none⟩))) w.heap.size 88 b c n false false ∧ Fr (fun x => x = wb ∨ x = p) w (w1.setCell ⟨wb, i, none⟩ (.pointer (some ⟨w.heap.size, 0, none⟩)))) :=
    ⟨by rw [size_setCell]; exact hs1, hb1.setCell i _, Blk.setCell_ne hc1 _ _ (fun e => hne e.symm), Blk.setCell_ne hc2 _ _ (fun e => by simp at e; omega), (hfr.mono (fun x _ hx => .inr hx)).setCell ⟨wb, i, none⟩ _ (fun _ => .inl rfl)⟩
  clear hb1 hc1 hc2 hfr h hp c0 hs1
  go_wp2
  first | go_end0 | refine bodyPost_ret (results_none rfl _ _ _) rfl ?_
  exact ⟨rfl, FIN.out⟩

/-! ### own 12, Clone 31 -/
set_option maxRecDepth 20000 in
theorem clone31 {w : World} {m : Nat} {b c : Option Nat} {n : Int} {ob oc : Bool} (h : Cow w m 93 b c n ob oc) :
    Calls Yba.prog 31 #[.pointer (some ⟨m, 0, none⟩)] w fun e w' => e = .returned (.pointer (some ⟨w.heap.size, 0, none⟩)) ∧ w'.heap.size = w.heap.size + 1 ∧ Cow w' m 93 b c n false false ∧ Cow w' w.heap.size 93 b c n false false ∧ Fr (fun x => x = m) w w' := by
  have hm0 : m < w.heap.size := h.lt
  have c0 : w.cell? ⟨m, 0, none⟩ = some (.map b) := h.cell 0
  have c1 : w.cell? ⟨m, 1, none⟩ = some (.map c) := h.cell 1
  have c2 : w.cell? ⟨m, 2, none⟩ = some (.int .i64 n) := h.cell 2
  have c3 : w.cell? ⟨m, 3, none⟩ = some (.bool ob) := h.cell 3
  have c4 : w.cell? ⟨m, 4, none⟩ = some (.bool oc) := h.cell 4
  have f3 : w.frozen? ⟨m, 3, none⟩ = false := h.frozen 3
  have f4 : w.frozen? ⟨m, 4, none⟩ = false := h.frozen 4
  have FIN : Hid (∀ q : Nat, (((((w.setCell ⟨m, 3, none⟩ (.bool false)).setCell ⟨m, 4, none⟩ (.bool false)).alloc (.cells #[.map b, .map c, .int .i64 n, .bool false, .bool false] 93)).drewN q).heap.size = w.heap.size + 1 ∧ Cow ((((w.setCell ⟨m, 3, none⟩ (.bool false)).setCell ⟨m, 4, none⟩ (.bool false)).alloc (.cells #[.map b, .map c, .int .i64 n, .bool false, .bool false] 93)).drewN q) m 93 b c n false false ∧ Cow ((((w.setCell ⟨m, 3, none⟩ (.bool false)).setCell ⟨m, 4, none⟩ (.bool false)).alloc (.cells #[.map b, .map c, .int .i64 n, .bool false, .bool false] 93)).drewN q) w.heap.size 93 b c n false false ∧ Fr (fun x => x = m) w ((((w.setCell ⟨m, 3, none⟩ (.bool false)).setCell ⟨m, 4, none⟩ (.bool false)).alloc (.cells #[.map b, .map c, .int .i64 n, .bool false, .bool false] 93)).drewN q))) := fun q =>
    ⟨by show (World.alloc _ _).heap.size = _; simp [World.setCell], ((Blk.setCell h 3 (.bool false)).setCell 4 (.bool false)).alloc _, by
      have := blk_new ((w.setCell ⟨m, 3, none⟩ (.bool false)).setCell ⟨m, 4, none⟩ (.bool false)) #[.map b, .map c, .int .i64 n, .bool false, .bool false] 93
      rw [size_setCell, size_setCell] at this
      exact this, ((((Fr.refl (fun x => x = m) w).setCell ⟨m, 3, none⟩ _ (fun _ => rfl)).setCell ⟨m, 4, none⟩ _ (fun _ => rfl)).alloc _).drewN q⟩
  clear h
  go_enter Yba.func31, Yba.ntmps31
  go_wp2
  go_region
  all_goals go_wp2
  all_goals go_ret
  all_goals exact ⟨rfl, FIN.out 1⟩

set_option maxRecDepth 20000 in
theorem own12_false {w : World} {wb i : Nat} {cs : Array Value} {v : Value} (h : Blk w wb cs 38) (hi : cs[i]? = some v) :
    Calls Yba.prog 12 #[.pointer (some ⟨wb, i, none⟩), .bool false] w fun e w' => e = .returned (.tuple #[]) ∧ w'.heap.size = w.heap.size + 1 ∧ Blk w' wb (cs.setIfInBounds i (.pointer (some ⟨w.heap.size, 0, none⟩))) 38 ∧ Cow w' w.heap.size 93 none none 0 false false ∧ Fr (fun x => x = wb) w w' := by
  have hm0 : wb < w.heap.size := h.lt
  have c0 : w.cell? ⟨wb, i, none⟩ = some v := (h.cell i).trans hi
  have f0 : w.frozen? ⟨wb, i, none⟩ = false := h.frozen i
  have FIN : Hid (((w.setCell ⟨wb, i, none⟩ (.pointer (some ⟨w.heap.size, 0, none⟩))).alloc (.cells #[.map none, .map none, .int .i64 0, .bool false, .bool false] 93)).heap.size = w.heap.size + 1 ∧ Blk ((w.setCell ⟨wb, i, none⟩ (.pointer (some ⟨w.heap.size, 0, none⟩))).alloc (.cells #[.map none, .map none, .int .i64 0, .bool false, .bool false] 93)) wb (cs.setIfInBounds i (.pointer (some ⟨w.heap.size, 0, none⟩))) 38 ∧ Cow ((w.setCell ⟨wb, i, none⟩ (.pointer (some ⟨w.heap.size, 0, none⟩))).alloc (.cells #[.map none, .map none, .int .i64 0, .bool false, .bool false] 93)) w.heap.size 93 none none 0 false false ∧ Fr (fun x => x = wb) w ((w.setCell ⟨wb, i, none⟩ (.pointer (some ⟨w.heap.size, 0, none⟩))).alloc (.cells #[.map none, .map none, .int .i64 0, .bool false, .bool false] 93))) :=
    ⟨by simp [World.setCell], (Blk.setCell h i _).alloc _, by
      have := blk_new (w.setCell ⟨wb, i, none⟩ (.pointer (some ⟨w.heap.size, 0, none⟩))) #[.map none, .map none, .int .i64 0, .bool false, .bool false] 93
      rw [size_setCell] at this
      exact this, ((Fr.refl (fun x => x = wb) w).setCell ⟨wb, i, none⟩ _ (fun _ => rfl)).alloc _⟩
  clear h
  go_enter Yba.func12, Yba.ntmps12
  go_wp2
  first | go_end0 | refine bodyPost_ret (results_none rfl _ _ _) rfl ?_
  exact ⟨rfl, FIN.out⟩

set_option maxRecDepth 20000 in
theorem own12_true {w : World} {wb i p : Nat} {cs : Array Value} {b c : Option Nat} {n : Int} {ob oc : Bool} (h : Blk w wb cs 38) (hi : cs[i]? = some (.pointer (some ⟨p, 0, none⟩))) (hp : Cow w p 93 b c n ob oc) :
    Calls Yba.prog 12 #[.pointer (some ⟨wb, i, none⟩), .bool true] w fun e w' => e = .returned (.tuple #[]) ∧ w'.heap.size = w.heap.size + 1 ∧ Blk w' wb (cs.setIfInBounds i (.pointer (some ⟨w.heap.size, 0, none⟩))) 38 ∧ Cow w' p 93 b c n false false ∧ Cow w' w.heap.size 93 b c n false false ∧ Fr (fun x => x = wb ∨ x = p) w w' := by
  have hm0 : wb < w.heap.size := h.lt
  have hp0 : p < w.heap.size := Blk.lt hp
  have hne : wb ≠ p := h.ne hp (by decide)
  have c0 : w.cell? ⟨wb, i, none⟩ = some (.pointer (some ⟨p, 0, none⟩)) := (h.cell i).trans hi
  go_enter Yba.func12, Yba.ntmps12
  go_wp2_with fail
  refine (clone31 hp).mono ?_
  rintro e w1 ⟨rfl, hs1, hc1, hc2, hfr⟩
  have hb1 : Blk w1 wb cs 38 := h.fr hfr hne
  have c01 : w1.cell? ⟨wb, i, none⟩ = some (.pointer (some ⟨p, 0, none⟩)) := (hb1.cell i).trans hi
  have f01 : w1.frozen? ⟨wb, i, none⟩ = false := hb1.frozen i
  have FIN : Hid ((w1.setCell ⟨wb, i, none⟩ (.pointer (some ⟨w.heap.size, 0, none⟩))).heap.size = w.heap.size + 1 ∧ Blk (w1.setCell ⟨wb, i, none⟩ (.pointer (some ⟨w.heap.size, 0, none⟩))) wb (cs.setIfInBounds i (.pointer (some ⟨w.heap.size, 0, none⟩))) 38 ∧ Cow (w1.setCell ⟨wb, i, none⟩ (.pointer (some ⟨w.heap.size, 0, none⟩))) p 93 b c n false false ∧ Cow (w1.setCell ⟨wb, i, none⟩ (.pointer (some ⟨w.heap.size, 0, none⟩))) w.heap.size 93 b c n false false ∧ Fr (fun x => x = wb ∨ x = p) w (w1.setCell ⟨wb, i, none⟩ (.pointer (some ⟨w.heap.size, 0, none⟩)))) :=
    ⟨by rw [size_setCell]; exact hs1, hb1.setCell i _, Blk.setCell_ne hc1 _ _ (fun e => hne e.symm), Blk.setCell_ne hc2 _ _ (fun e => by simp at e; omega), (hfr.mono (fun x _ hx => .inr hx)).setCell ⟨wb, i, none⟩ _ (fun _ => .inl rfl)⟩
  clear hb1 hc1 hc2 hfr h hp c0 hs1
  go_wp2
  first | go_end0 | refine bodyPost_ret (results_none rfl _ _ _) rfl ?_
  exact ⟨rfl, FIN.out⟩

/-! ### own 13, Clone 32 -/
set_option maxRecDepth 20000 in
theorem clone32 {w : World} {m : Nat} {b c : Option Nat} {n : Int} {ob oc : Bool} (h : Cow w m 98 b c n ob oc) :
    Calls Yba.prog 32 #[.pointer (some ⟨m, 0, none⟩)] w fun e w' => e = .returned (.pointer (some ⟨w.heap.size, 0, none⟩)) ∧ w'.heap.size = w.heap.size + 1 ∧ Cow w' m 98 b c n false false ∧ Cow w' w.heap.size 98 b c n false false ∧ Fr (fun x => x = m) w w' := by
  have hm0 : m < w.heap.size := h.lt
  have c0 : w.cell? ⟨m, 0, none⟩ = some (.map b) := h.cell 0
  have c1 : w.cell? ⟨m, 1, none⟩ = some (.map c) := h.cell 1
  have c2 : w.cell? ⟨m, 2, none⟩ = some (.int .i64 n) := h.cell 2
  have c3 : w.cell? ⟨m, 3, none⟩ = some (.bool ob) := h.cell 3
  have c4 : w.cell? ⟨m, 4, none⟩ = some (.bool oc) := h.cell 4
  have f3 : w.frozen? ⟨m, 3, none⟩ = false := h.frozen 3
  have f4 : w.frozen? ⟨m, 4, none⟩ = false := h.frozen 4
  have FIN : Hid (∀ q : Nat, (((((w.setCell ⟨m, 3, none⟩ (.bool false)).setCell ⟨m, 4, none⟩ (.bool false)).alloc (.cells #[.map b, .map c, .int .i64 n, .bool false, .bool false] 98)).drewN q).heap.size = w.heap.size + 1 ∧ Cow ((((w.setCell ⟨m, 3, none⟩ (.bool false)).setCell ⟨m, 4, none⟩ (.bool false)).alloc (.cells #[.map b, .map c, .int .i64 n, .bool false, .bool false] 98)).drewN q) m 98 b c n false false ∧ Cow ((((w.setCell ⟨m, 3, none⟩ (.bool false)).setCell ⟨m, 4, none⟩ (.bool false)).alloc (.cells #[.map b, .map c, .int .i64 n, .bool false, .bool false] 98)).drewN q) w.heap.size 98 b c n false false ∧ Fr (fun x => x = m) w ((((w.setCell ⟨m, 3, none⟩ (.bool false)).setCell ⟨m, 4, none⟩ (.bool false)).alloc (.cells #[.map b, .map c, .int .i64 n, .bool false, .bool false] 98)).drewN q))) := fun q =>
    ⟨by show (World.alloc _ _).heap.size = _; simp [World.setCell], ((Blk.setCell h 3 (.bool false)).setCell 4 (.bool false)).alloc _, by
      have := blk_new ((w.setCell ⟨m, 3, none⟩ (.bool false)).setCell ⟨m, 4, none⟩ (.bool false)) #[.map b, .map c, .int .i64 n, .bool false, .bool false] 98
      rw [size_setCell, size_setCell] at this
      exact this, ((((Fr.refl (fun x => x = m) w).setCell ⟨m, 3, none⟩ _ (fun _ => rfl)).setCell ⟨m, 4, none⟩ _ (fun _ => rfl)).alloc _).drewN q⟩
  clear h
  go_enter Yba.func32, Yba.ntmps32
  go_wp2
  go_region
  all_goals go_wp2
  all_goals go_ret
  all_goals exact ⟨rfl, FIN.out 1⟩

set_option maxRecDepth 20000 in
theorem own13_false {w : World} {wb i : Nat} {cs : Array Value} {v : Value} (h : Blk w wb cs 38) (hi : cs[i]? = some v) :
    Calls Yba.prog 13 #[.pointer (some ⟨wb, i, none⟩), .bool false] w fun e w' => e = .returned (.tuple #[]) ∧ w'.heap.size = w.heap.size + 1 ∧ Blk w' wb (cs.setIfInBounds i (.pointer (some ⟨w.heap.size, 0, none⟩))) 38 ∧ Cow w' w.heap.size 98 none none 0 false false ∧ Fr (fun x => x = wb) w w' := by
  have hm0 : wb < w.heap.size := h.lt
  have c0 : w.cell? ⟨wb, i, none⟩ = some v := (h.cell i).trans hi
  have f0 : w.frozen? ⟨wb, i, none⟩ = false := h.frozen i
  have FIN : Hid (((w.setCell ⟨wb, i, none⟩ (.pointer (some ⟨w.heap.size, 0, none⟩))).alloc (.cells #[.map none, .map none, .int .i64 0, .bool false, .bool false] 98)).heap.size = w.heap.size + 1 ∧ Blk ((w.setCell ⟨wb, i, none⟩ (.pointer (some ⟨w.heap.size, 0, none⟩))).alloc (.cells #[.map none, .map none, .int .i64 0, .bool false, .bool false] 98)) wb (cs.setIfInBounds i (.pointer (some ⟨w.heap.size, 0, none⟩))) 38 ∧ Cow ((w.setCell ⟨wb, i, none⟩ (.pointer (some ⟨w.heap.size, 0, none⟩))).alloc (.cells #[.map none, .map none, .int .i64 0, .bool false, .bool false] 98)) w.heap.size 98 none none 0 false false ∧ Fr (fun x => x = wb) w ((w.setCell ⟨wb, i, none⟩ (.pointer (some ⟨w.heap.size, 0, none⟩))).alloc (.cells #[.map none, .map none, .int .i64 0, .bool false, .bool false] 98))) :=
    ⟨by simp [World.setCell], (Blk.setCell h i _).alloc _, by
      have := blk_new (w.setCell ⟨wb, i, none⟩ (.pointer (some ⟨w.heap.size, 0, none⟩))) #[.map none, .map none, .int .i64 0, .bool false, .bool false] 98
      rw [size_setCell] at this
      exact this, ((Fr.refl (fun x => x = wb) w).setCell ⟨wb, i, none⟩ _ (fun _ => rfl)).alloc _⟩
  clear h
  go_enter Yba.func13, Yba.ntmps13
  go_wp2
  first | go_end0 | refine bodyPost_ret (results_none rfl _ _ _) rfl ?_
  exact ⟨rfl, FIN.out⟩

set_option maxRecDepth 20000 in
theorem own13_true {w : World} {wb i p : Nat} {cs : Array Value} {b c : Option Nat} {n : Int} {ob oc : Bool} (h : Blk w wb cs 38) (hi : cs[i]? = some (.pointer (some ⟨p, 0, none⟩))) (hp : Cow w p 98 b c n ob oc) :
    Calls Yba.prog 13 #[.pointer (some ⟨wb, i, none⟩), .bool true] w fun e w' => e = .returned (.tuple #[]) ∧ w'.heap.size = w.heap.size + 1 ∧ Blk w' wb (cs.setIfInBounds i (.pointer (some ⟨w.heap.size, 0, none⟩))) 38 ∧ Cow w' p 98 b c n false false ∧ Cow w' w.heap.size 98 b c n false false ∧ Fr (fun x => x = wb ∨ x = p) w w' := by
  have hm0 : wb < w.heap.size := h.lt
  have hp0 : p < w.heap.size := Blk.lt hp
  have hne : wb ≠ p := h.ne hp (by decide)
  have c0 : w.cell? ⟨wb, i, none⟩ = some (.pointer (some ⟨p, 0, none⟩)) := (h.cell i).trans hi
  go_enter Yba.func13, Yba.ntmps13
  go_wp2_with fail
  refine (clone32 hp).mono ?_
  rintro e w1 ⟨rfl, hs1, hc1, hc2, hfr⟩
  have hb1 : Blk w1 wb cs 38 := h.fr hfr hne
  have c01 : w1.cell? ⟨wb, i, none⟩ = some (.pointer (some ⟨p, 0, none⟩)) := (hb1.cell i).trans hi
  have f01 : w1.frozen? ⟨wb, i, none⟩ = false := hb1.frozen i
  have FIN : Hid ((w1.setCell ⟨wb, i, none⟩ (.pointer (some ⟨w.heap.size, 0, none⟩))).heap.size = w.heap.size + 1 ∧ Blk (w1.setCell ⟨wb, i, none⟩ (.pointer (some ⟨w.heap.size, 0, none⟩))) wb (cs.setIfInBounds i (.pointer (some ⟨w.heap.size, 0, none⟩))) 38 ∧ Cow (w1.setCell ⟨wb, i, none⟩ (.pointer (some ⟨w.heap.size, 0, none⟩))) p 98 b c n false false ∧ Cow (w1.setCell ⟨wb, i, none⟩ (.pointer (some ⟨w.heap.size, 0, none⟩))) w.heap.size 98 b c n false false ∧ Fr (fun x => x = wb ∨ x = p) w (w1.setCell ⟨wb, i, none⟩ (.pointer (some ⟨w.heap.size, 0, none⟩)))) :=
    ⟨by rw [size_setCell]; exact hs1, hb1.setCell i _, Blk.setCell_ne hc1 _ _ (fun e => hne e.symm), Blk.setCell_ne hc2 _ _ (fun e => by simp at e; omega), (hfr.mono (fun x _ hx => .inr hx)).setCell ⟨wb, i, none⟩ _ (fun _ => .inl rfl)⟩
  clear hb1 hc1 hc2 hfr h hp c0 hs1
  go_wp2
  first | go_end0 | refine bodyPost_ret (results_none rfl _ _ _) rfl ?_
  exact ⟨rfl, FIN.out⟩

/-! ### own 14, Clone 33 -/
set_option maxRecDepth 20000 in
theorem clone33 {w : World} {m : Nat} {b c : Option Nat} {n : Int} {ob oc : Bool} (h : Cow w m 103 b c n ob oc) :
    Calls Yba.prog 33 #[.pointer (some ⟨m, 0, none⟩)] w fun e w' => e = .returned (.pointer (some ⟨w.heap.size, 0, none⟩)) ∧ w'.heap.size = w.heap.size + 1 ∧ Cow w' m 103 b c n false false ∧ Cow w' w.heap.size 103 b c n false false ∧ Fr (fun x => x = m) w w' := by
  have hm0 : m < w.heap.size := h.lt
  have c0 : w.cell? ⟨m, 0, none⟩ = some (.map b) := h.cell 0
  have c1 : w.cell? ⟨m, 1, none⟩ = some (.map c) := h.cell 1
  have c2 : w.cell? ⟨m, 2, none⟩ = some (.int .i64 n) := h.cell 2
  have c3 : w.cell? ⟨m, 3, none⟩ = some (.bool ob) := h.cell 3
  have c4 : w.cell? ⟨m, 4, none⟩ = some (.bool oc) := h.cell 4
  have f3 : w.frozen? ⟨m, 3, none⟩ = false := h.frozen 3
  have f4 : w.frozen? ⟨m, 4, none⟩ = false := h.frozen 4
  have FIN : Hid (∀ q : Nat, (((((w.setCell ⟨m, 3, none⟩ (.bool false)).setCell ⟨m, 4, none⟩ (.bool false)).alloc (.cells #[.map b, .map c, .int .i64 n, .bool false, .bool false] 103)).drewN q).heap.size = w.heap.size + 1 ∧ Cow ((((w.setCell ⟨m, 3, none⟩ (.bool false)).setCell ⟨m, 4, none⟩ (.bool false)).alloc (.cells #[.map b, .map c, .int .i64 n, .bool false, .bool false] 103)).drewN q) m 103 b c n false false ∧ Cow ((((w.setCell ⟨m, 3, none⟩ (.bool false)).setCell ⟨m, 4, none⟩ (.bool false)).alloc (.cells #[.map b, .map c, .int .i64 n, .bool false, .bool false] 103)).drewN q) w.heap.size 103 b c n false false ∧ Fr (fun x => x = m) w ((((w.setCell ⟨m, 3, none⟩ (.bool false)).setCell ⟨m, 4, none⟩ (.bool false)).alloc (.cells #[.map b, .map c, .int .i64 n, .bool false, .bool false] 103)).drewN q))) := fun q =>
    ⟨by show (World.alloc _ _).heap.size = _; simp [World.setCell], ((Blk.setCell h 3 (.bool false)).setCell 4 (.bool false)).alloc _, by
      have := blk_new ((w.setCell ⟨m, 3, none⟩ (.bool false)).setCell ⟨m, 4, none⟩ (.bool false)) #[.map b, .map c, .int .i64 n, .bool false, .bool false] 103
      rw [size_setCell, size_setCell] at this
      exact this, ((((Fr.refl (fun x => x = m) w).setCell ⟨m, 3, none⟩ _ (fun _ => rfl)).setCell ⟨m, 4, none⟩ _ (fun _ => rfl)).alloc _).drewN q⟩
  clear h
  go_enter Yba.func33, Yba.ntmps33
  go_wp2
  go_region
  all_goals go_wp2
  all_goals go_ret
  all_goals exact ⟨rfl, FIN.out 1⟩

set_option maxRecDepth 20000 in
theorem own14_false {w : World} {wb i : Nat} {cs : Array Value} {v : Value} (h : Blk w wb cs 38) (hi : cs[i]? = some v) :
    Calls Yba.prog 14 #[.pointer (some ⟨wb, i, none⟩), .bool false] w fun e w' => e = .returned (.tuple #[]) ∧ w'.heap.size = w.heap.size + 1 ∧ Blk w' wb (cs.setIfInBounds i (.pointer (some ⟨w.heap.size, 0, none⟩))) 38 ∧ Cow w' w.heap.size 103 none none 0 false false ∧ Fr (fun x => x = wb) w w' := by
  have hm0 : wb < w.heap.size := h.lt
  have c0 : w.cell? ⟨wb, i, none⟩ = some v := (h.cell i).trans hi
  have f0 : w.frozen? ⟨wb, i, none⟩ = false := h.frozen i
  have FIN : Hid (((w.setCell ⟨wb, i, none⟩ (.pointer (some ⟨w.heap.size, 0, none⟩))).alloc (.cells #[.map none, .map none, .int .i64 0, .bool false, .bool false] 103)).heap.size = w.heap.size + 1 ∧ Blk ((w.setCell ⟨wb, i, none⟩ (.pointer (some ⟨w.heap.size, 0, none⟩))).alloc (.cells #[.map none, .map none, .int .i64 0, .bool false, .bool false] 103)) wb (cs.setIfInBounds i (.pointer (some ⟨w.heap.size, 0, none⟩))) 38 ∧ Cow ((w.setCell ⟨wb, i, none⟩ (.pointer (some ⟨w.heap.size, 0, none⟩))).alloc (.cells #[.map none, .map none, .int .i64 0, .bool false, .bool false] 103)) w.heap.size 103 none none 0 false false ∧ Fr (fun x => x = wb) w ((w.setCell ⟨wb, i, none⟩ (.pointer (some ⟨w.heap.size, 0, none⟩))).alloc (.cells #[.map none, .map none, .int .i64 0, .bool false, .bool false] 103))) :=
    ⟨by simp [World.setCell], (Blk.setCell h i _).alloc _, by
      have := blk_new (w.setCell ⟨wb, i, none⟩ (.pointer (some ⟨w.heap.size, 0, none⟩))) #[.map none, .map none, .int .i64 0, .bool false, .bool false] 103
      rw [size_setCell] at this
      exact this, ((Fr.refl (fun x => x = wb) w).setCell ⟨wb, i, none⟩ _ (fun _ => rfl)).alloc _⟩
  clear h
  go_enter Yba.func14, Yba.ntmps14
  go_wp2
  first | go_end0 | refine bodyPost_ret (results_none rfl _ _ _) rfl ?_
  exact ⟨rfl, FIN.out⟩

set_option maxRecDepth 20000 in
theorem own14_true {w : World} {wb i p : Nat} {cs : Array Value} {b c : Option Nat} {n : Int} {ob oc : Bool} (h : Blk w wb cs 38) (hi : cs[i]? = some (.pointer (some ⟨p, 0, none⟩))) (hp : Cow w p 103 b c n ob oc) :
    Calls Yba.prog 14 #[.pointer (some ⟨wb, i, none⟩), .bool true] w fun e w' => e = .returned (.tuple #[]) ∧ w'.heap.size = w.heap.size + 1 ∧ Blk w' wb (cs.setIfInBounds i (.pointer (some ⟨w.heap.size, 0, none⟩))) 38 ∧ Cow w' p 103 b c n false false ∧ Cow w' w.heap.size 103 b c n false false ∧ Fr (fun x => x = wb ∨ x = p) w w' := by
  have hm0 : wb < w.heap.size := h.lt
  have hp0 : p < w.heap.size := Blk.lt hp
  have hne : wb ≠ p := h.ne hp (by decide)
  have c0 : w.cell? ⟨wb, i, none⟩ = some (.pointer (some ⟨p, 0, none⟩)) := (h.cell i).trans hi
  go_enter Yba.func14, Yba.ntmps14
  go_wp2_with fail
  refine (clone33 hp).mono ?_
  rintro e w1 ⟨rfl, hs1, hc1, hc2, hfr⟩
  have hb1 : Blk w1 wb cs 38 := h.fr hfr hne
  have c01 : w1.cell? ⟨wb, i, none⟩ = some (.pointer (some ⟨p, 0, none⟩)) := (hb1.cell i).trans hi
  have f01 : w1.frozen? ⟨wb, i, none⟩ = false := hb1.frozen i
  have FIN : Hid ((w1.setCell ⟨wb, i, none⟩ (.pointer (some ⟨w.heap.size, 0, none⟩))).heap.size = w.heap.size + 1 ∧ Blk (w1.setCell ⟨wb, i, none⟩ (.pointer (some ⟨w.heap.size, 0, none⟩))) wb (cs.setIfInBounds i (.pointer (some ⟨w.heap.size, 0, none⟩))) 38 ∧ Cow (w1.setCell ⟨wb, i, none⟩ (.pointer (some ⟨w.heap.size, 0, none⟩))) p 103 b c n false false ∧ Cow (w1.setCell ⟨wb, i, none⟩ (.pointer (some ⟨w.heap.size, 0, none⟩))) w.heap.size 103 b c n false false ∧ Fr (fun x => x = wb ∨ x = p) w (w1.setCell ⟨wb, i, none⟩ (.pointer (some ⟨w.heap.size, 0, none⟩)))) :=
    ⟨by rw [size_setCell]; exact hs1, hb1.setCell i _, Blk.setCell_ne hc1 _ _ (fun e => hne e.symm), Blk.setCell_ne hc2 _ _ (fun e => by simp at e; omega), (hfr.mono (fun x _ hx => .inr hx)).setCell ⟨wb, i, none⟩ _ (fun _ => .inl rfl)⟩
  clear hb1 hc1 hc2 hfr h hp c0 hs1
  go_wp2
  first | go_end0 | refine bodyPost_ret (results_none rfl _ _ _) rfl ?_
  exact ⟨rfl, FIN.out⟩

/-! ### own 15, Clone 34 -/
set_option maxRecDepth 20000 in
theorem clone34 {w : World} {m : Nat} {b c : Option Nat} {n : Int} {ob oc : Bool} (h : Cow w m 108 b c n ob oc) :
    Calls Yba.prog 34 #[.pointer (some ⟨m, 0, none⟩)] w fun e w' => e = .returned (.pointer (some ⟨w.heap.size, 0, none⟩)) ∧ w'.heap.size = w.heap.size + 1 ∧ Cow w' m 108 b c n false false ∧ Cow w' w.heap.size 108 b c n false false ∧ Fr (fun x => x = m) w w' := by
  have hm0 : m < w.heap.size := h.lt
  have c0 : w.cell? ⟨m, 0, none⟩ = some (.map b) := h.cell 0
  have c1 : w.cell? ⟨m, 1, none⟩ = some (.map c) := h.cell 1
  have c2 : w.cell? ⟨m, 2, none⟩ = some (.int .i64 n) := h.cell 2
  have c3 : w.cell? ⟨m, 3, none⟩ = some (.bool ob) := h.cell 3
  have c4 : w.cell? ⟨m, 4, none⟩ = some (.bool oc) := h.cell 4
  have f3 : w.frozen? ⟨m, 3, none⟩ = false := h.frozen 3
  have f4 : w.frozen? ⟨m, 4, none⟩ = false := h.frozen 4
  have FIN : Hid (∀ q : Nat, (((((w.setCell ⟨m, 3, none⟩ (.bool false)).setCell ⟨m, 4, none⟩ (.bool false)).alloc (.cells #[.map b, .map c, .int .i64 n, .bool false, .bool false] 108)).drewN q).heap.size = w.heap.size + 1 ∧ Cow ((((w.setCell ⟨m, 3, none⟩ (.bool false)).setCell ⟨m, 4, none⟩ (.bool false)).alloc (.cells #[.map b, .map c, .int .i64 n, .bool false, .bool false] 108)).drewN q) m 108 b c n false false ∧ Cow ((((w.setCell ⟨m, 3, none⟩ (.bool false)).setCell ⟨m, 4, none⟩ (.bool false)).alloc (.cells #[.map b, .map c, .int .i64 n, .bool false, .bool false] 108)).drewN q) w.heap.size 108 b c n false false ∧ Fr (fun x => x = m) w ((((w.setCell ⟨m, 3, none⟩ (.bool false)).setCell ⟨m, 4, none⟩ (.bool false)).alloc (.cells #[.map b, .map c, .int .i64 n, .bool false, .bool false] 108)).drewN q))) := fun q =>
    ⟨by show (World.alloc _ _).heap.size = _; simp [World.setCell], ((Blk.setCell h 3 (.bool false)).setCell 4 (.bool false)).alloc _, by
      have := blk_new ((w.setCell ⟨m, 3, none⟩ (.bool false)).setCell ⟨m, 4, none⟩ (.bool false)) #[.map b, .map c, .int .i64 n, .bool false, .bool false] 108
      rw [size_setCell, size_setCell] at this
      exact this, ((((Fr.refl (fun x => x = m) w).setCell ⟨m, 3, none⟩ _ (fun _ => rfl)).setCell ⟨m, 4, none⟩ _ (fun _ => rfl)).alloc _).drewN q⟩
  clear h
  go_enter Yba.func34, Yba.ntmps34
  go_wp2
  go_region
  all_goals go_wp2
  all_goals go_ret
  all_goals exact ⟨rfl, FIN.out 1⟩

set_option maxRecDepth 20000 in
theorem own15_false {w : World} {wb i : Nat} {cs : Array Value} {v : Value} (h : Blk w wb cs 38) (hi : cs[i]? = some v) :
    Calls Yba.prog 15 #[.pointer (some ⟨wb, i, none⟩), .bool false] w fun e w' => e = .returned (.tuple #[]) ∧ w'.heap.size = w.heap.size + 1 ∧ Blk w' wb (cs.setIfInBounds i (.pointer (some ⟨w.heap.size, 0, none⟩))) 38 ∧ Cow w' w.heap.size 108 none none 0 false false ∧ Fr (fun x => x = wb) w w' := by
  have hm0 : wb < w.heap.size := h.lt
  have c0 : w.cell? ⟨wb, i, none⟩ = some v := (h.cell i).trans hi
  have f0 : w.frozen? ⟨wb, i, none⟩ = false := h.frozen i
  have FIN : Hid (((w.setCell ⟨wb, i, none⟩ (.pointer (some ⟨w.heap.size, 0, none⟩))).alloc (.cells #[.map none, .map none, .int .i64 0, .bool false, .bool false] 108)).heap.size = w.heap.size + 1 ∧ Blk ((w.setCell ⟨wb, i, none⟩ (.pointer (some ⟨w.heap.size, 0, none⟩))).alloc (.cells #[.map none, .map none, .int .i64 0, .bool false, .bool false] 108)) wb (cs.setIfInBounds i (.pointer (some ⟨w.heap.size, 0, none⟩))) 38 ∧ Cow ((w.setCell ⟨wb, i, none⟩ (.pointer (some ⟨w.heap.size, 0, none⟩))).alloc (.cells #[.map none, .map none, .int .i64 0, .bool false, .bool false] 108)) w.heap.size 108 none none 0 false false ∧ Fr (fun x => x = wb) w ((w.setCell ⟨wb, i, none⟩ (.pointer (some ⟨w.heap.size, 0, none⟩))).alloc (.cells #[.map none, .map none, .int .i64 0, .bool false, .bool false] 108))) :=
    ⟨by simp [World.setCell], (Blk.setCell h i _).alloc _, by
      have := blk_new (w.setCell ⟨wb, i, none⟩ (.pointer (some ⟨w.heap.size, 0, none⟩))) #[.map none, .map none, .int .i64 0, .bool false, .bool false] 108
      rw [size_setCell] at this
      exact this, ((Fr.refl (fun x => x = wb) w).setCell ⟨wb, i, none⟩ _ (fun _ => rfl)).alloc _⟩
  clear h
  go_enter Yba.func15, Yba.ntmps15
  go_wp2
  first | go_end0 | refine bodyPost_ret (results_none rfl _ _ _) rfl ?_
  exact ⟨rfl, FIN.out⟩

set_option maxRecDepth 20000 in
theorem own15_true {w : World} {wb i p : Nat} {cs : Array Value} {b c : Option Nat} {n : Int} {ob oc : Bool} (h : Blk w wb cs 38) (hi : cs[i]? = some (.pointer (some ⟨p, 0, none⟩))) (hp : Cow w p 108 b c n ob oc) :
    Calls Yba.prog 15 #[.pointer (some ⟨wb, i, none⟩), .bool true] w fun e w' => e = .returned (.tuple #[]) ∧ w'.heap.size = w.heap.size + 1 ∧ Blk w' wb (cs.setIfInBounds i (.pointer (some ⟨w.heap.size, 0, none⟩))) 38 ∧ Cow w' p 108 b c n false false ∧ Cow w' w.heap.size 108 b c n false false ∧ Fr (fun x => x = wb ∨ x = p) w w' := by
  have hm0 : wb < w.heap.size := h.lt
  have hp0 : p < w.heap.size := Blk.lt hp
  have hne : wb ≠ p := h.ne hp (by decide)
  have c0 : w.cell? ⟨wb, i, none⟩ = some (.pointer (some ⟨p, 0, none⟩)) := (h.cell i).trans hi
  go_enter Yba.func15, Yba.ntmps15
  go_wp2_with fail
  refine (clone34 hp).mono ?_
  rintro e w1 ⟨rfl, hs1, hc1, hc2, hfr⟩
  have hb1 : Blk w1 wb cs 38 := h.fr hfr hne
  have c01 : w1.cell? ⟨wb, i, none⟩ = some (.pointer (some ⟨p, 0, none⟩)) := (hb1.cell i).trans hi
  have f01 : w1.frozen? ⟨wb, i, none⟩ = false := hb1.frozen i
  have FIN : Hid ((w1.setCell ⟨wb, i, none⟩ (.pointer (some ⟨w.heap.size, 0, none⟩))).heap.size = w.heap.size + 1 ∧ Blk (w1.setCell ⟨wb, i, none⟩ (.pointer (some ⟨w.heap.size, 0, none⟩))) wb (cs.setIfInBounds i (.pointer (some ⟨w.heap.size, 0, none⟩))) 38 ∧ Cow (w1.setCell ⟨wb, i, none⟩ (.pointer (some ⟨w.heap.size, 0, none⟩))) p 108 b c n false false ∧ Cow (w1.setCell ⟨wb, i, none⟩ (.pointer (some ⟨w.heap.size, 0, none⟩))) w.heap.size 108 b c n false false ∧ Fr (fun x => x = wb ∨ x = p) w (w1.setCell ⟨wb, i, none⟩ (.pointer (some ⟨w.heap.size, 0, none⟩)))) :=
    ⟨by rw [size_setCell]; exact hs1, hb1.setCell i _, Blk.setCell_ne hc1 _ _ (fun e => hne e.symm), Blk.setCell_ne hc2 _ _ (fun e => by simp at e; omega), (hfr.mono (fun x _ hx => .inr hx)).setCell ⟨wb, i, none⟩ _ (fun _ => .inl rfl)⟩
  clear hb1 hc1 hc2 hfr h hp c0 hs1
  go_wp2
  first | go_end0 | refine bodyPost_ret (results_none rfl _ _ _) rfl ?_
  exact ⟨rfl, FIN.out⟩

end Go.Proofs.Ybulkeipw
