import Derived.Test.YbulkeipwOwn
namespace Go.Proofs.Ybulkeipw
open Go.RowKit
set_option linter.unusedVariables false

/-- the ten Maps' struct types, in the World's order -/
def tyOf : Nat → TypeId
  | 0 => 83
  | 1 => 88
  | 2 => 93
  | 3 => 88
  | 4 => 88
  | 5 => 88
  | 6 => 98
  | 7 => 103
  | 8 => 88
  | 9 => 108
  | _ => 0

/-- a pointer to a Map -/
abbrev ptr (b : Nat) : Value := .pointer (some ⟨b, 0, none⟩)

/-- the first k of ten fresh Maps from block Q on -/
def Zeros (w : World) (Q k : Nat) : Prop := ∀ i, i < k → Cow w (Q + i) (tyOf i) none none 0 false false

theorem Zeros.step {w w' : World} {Q k wb : Nat} (h : Zeros w Q k) (hf : Fr (fun x => x = wb) w w') (hwb : wb < Q) (hn : Cow w' (Q + k) (tyOf k) none none 0 false false) : Zeros w' Q (k + 1) := by
  intro i hi
  by_cases e : i = k
  · subst e; exact hn
  · exact Blk.fr (h i (by omega)) hf (by omega)

/-- ten Maps from Q on, the first k of them cloned to Q' on -/
structure Clones (B : Nat → Option Nat) (N : Nat → Int) (O : Nat → Bool) (w : World) (Q Q' k : Nat) : Prop where
  old : ∀ i, i < k → Cow w (Q + i) (tyOf i) (B i) none (N i) false false
  new : ∀ i, i < k → Cow w (Q' + i) (tyOf i) (B i) none (N i) false false
  rest : ∀ i, k ≤ i → i < 10 → Cow w (Q + i) (tyOf i) (B i) none (N i) (O i) false

theorem Clones.step {B : Nat → Option Nat} {N : Nat → Int} {O : Nat → Bool} {w w' : World} {Q Q' k wb : Nat} (h : Clones B N O w Q Q' k) (hf : Fr (fun x => x = wb ∨ x = Q + k) w w') (hwb : wb < Q ∨ Q + 10 ≤ wb) (hwb' : wb < Q') (hQ : Q + 10 ≤ Q')
    (h1 : Cow w' (Q + k) (tyOf k) (B k) none (N k) false false) (h2 : Cow w' (Q' + k) (tyOf k) (B k) none (N k) false false) (hk : k < 10) : Clones B N O w' Q Q' (k + 1) := by
  refine ⟨fun i hi => ?_, fun i hi => ?_, fun i hi hi2 => Blk.fr (h.rest i (by omega) hi2) hf (by omega)⟩
  · by_cases e : i = k
    · subst e; exact h1
    · exact Blk.fr (h.old i (by omega)) hf (by omega)
  · by_cases e : i = k
    · subst e; exact h2
    · exact Blk.fr (h.new i (by omega)) hf (by omega)

set_option maxRecDepth 20000 in
set_option maxHeartbeats 1000000 in
/-- newEdit of a World that shares nothing -/
theorem newEdit_false {w : World} {wb : Nat} {v10 v11 : Value} (h : Blk w wb #[.pointer none, .pointer none, .pointer none, .pointer none, .pointer none, .pointer none, .pointer none, .pointer none, .pointer none, .pointer none, v10, v11] 38) :
    Calls Yba.prog 5 #[ptr wb, .bool false] w fun e w' => e = .returned (ptr (w.heap.size + 1)) ∧ w'.heap.size = w.heap.size + 12 ∧ MapF w' w.heap.size (fun _ => none) ∧ Blk w' (w.heap.size + 1) #[ptr wb, .map none, .map (some w.heap.size), .slice none 0 0, .pointer none] 46 ∧
      Blk w' wb #[ptr (w.heap.size + 2), ptr (w.heap.size + 3), ptr (w.heap.size + 4), ptr (w.heap.size + 5), ptr (w.heap.size + 6), ptr (w.heap.size + 7), ptr (w.heap.size + 8), ptr (w.heap.size + 9), ptr (w.heap.size + 10), ptr (w.heap.size + 11), v10, v11] 38 ∧ Zeros w' (w.heap.size + 2) 10 ∧ Fr (fun x => x = wb) w w' := by
  have hm0 : wb < w.heap.size := h.lt
  have hmm := @run_makeMap Yba.prog
  obtain ⟨w0, hw0⟩ : ∃ w0, w0 = (w.alloc (.map #[] 0)).alloc (.cells #[ptr wb, .map none, .map (some w.heap.size), .slice none 0 0, .pointer none] 46) := ⟨_, rfl⟩
  have hs0 : w0.heap.size = w.heap.size + 2 := by rw [hw0]; simp
  have hb0 : Blk w0 wb #[.pointer none, .pointer none, .pointer none, .pointer none, .pointer none, .pointer none, .pointer none, .pointer none, .pointer none, .pointer none, v10, v11] 38 := by rw [hw0]; exact (h.alloc _).alloc _
  have hr0 : MapF w0 w.heap.size (fun _ => none) := by rw [hw0]; exact (mapF_new w).alloc _
  have he0 : Blk w0 (w.heap.size + 1) #[ptr wb, .map none, .map (some w.heap.size), .slice none 0 0, .pointer none] 46 := by
    rw [hw0]
    have := blk_new (w.alloc (.map #[] 0)) #[ptr wb, .map none, .map (some w.heap.size), .slice none 0 0, .pointer none] 46
    rw [World.size_alloc] at this
    exact this
  have hz0 : Zeros w0 (w.heap.size + 2) 0 := fun i hi => by omega
  have hf0 : Fr (fun x => x = wb) w w0 := by rw [hw0]; exact ((Fr.refl _ _).alloc _).alloc _
  go_enter Yba.func5, Yba.ntmps5
  go_wp2_with fail
  rw [← hw0]
  clear hw0 h hmm
  refine (own10_false hb0 (i := 0) rfl).mono ?_
  rintro e w1 ⟨rfl, hs1, hb1', hc1, hfr1⟩
  rw [hs0] at hb1' hc1
  have hb1 : Blk w1 wb #[ptr (w.heap.size + 2), .pointer none, .pointer none, .pointer none, .pointer none, .pointer none, .pointer none, .pointer none, .pointer none, .pointer none, v10, v11] 38 := hb1'
  have hz1 := hz0.step hfr1 (by omega) hc1
  have hr1 := hr0.fr hfr1 (by omega)
  have he1 := he0.fr hfr1 (by omega)
  have hf1 := hf0.trans hfr1
  rw [hs0] at hs1
  clear hb0 hb1' hc1 hz0 hr0 he0 hf0 hfr1 hs0
  go_wp2_with fail
  refine (own11_false hb1 (i := 1) rfl).mono ?_
  rintro e w2 ⟨rfl, hs2, hb2', hc2, hfr2⟩
  rw [hs1] at hb2' hc2
  have hb2 : Blk w2 wb #[ptr (w.heap.size + 2), ptr (w.heap.size + 3), .pointer none, .pointer none, .pointer none, .pointer none, .pointer none, .pointer none, .pointer none, .pointer none, v10, v11] 38 := hb2'
  have hz2 := hz1.step hfr2 (by omega) hc2
  have hr2 := hr1.fr hfr2 (by omega)
  have he2 := he1.fr hfr2 (by omega)
  have hf2 := hf1.trans hfr2
  rw [hs1] at hs2
  clear hb1 hb2' hc2 hz1 hr1 he1 hf1 hfr2 hs1
  go_wp2_with fail
  refine (own12_false hb2 (i := 2) rfl).mono ?_
  rintro e w3 ⟨rfl, hs3, hb3', hc3, hfr3⟩
  rw [hs2] at hb3' hc3
  have hb3 : Blk w3 wb #[ptr (w.heap.size + 2), ptr (w.heap.size + 3), ptr (w.heap.size + 4), .pointer none, .pointer none, .pointer none, .pointer none, .pointer none, .pointer none, .pointer none, v10, v11] 38 := hb3'
  have hz3 := hz2.step hfr3 (by omega) hc3
  have hr3 := hr2.fr hfr3 (by omega)
  have he3 := he2.fr hfr3 (by omega)
  have hf3 := hf2.trans hfr3
  rw [hs2] at hs3
  clear hb2 hb3' hc3 hz2 hr2 he2 hf2 hfr3 hs2
  go_wp2_with fail
  refine (own11_false hb3 (i := 3) rfl).mono ?_
  rintro e w4 ⟨rfl, hs4, hb4', hc4, hfr4⟩
  rw [hs3] at hb4' hc4
  have hb4 : Blk w4 wb #[ptr (w.heap.size + 2), ptr (w.heap.size + 3), ptr (w.heap.size + 4), ptr (w.heap.size + 5), .pointer none, .pointer none, .pointer none, .pointer none, .pointer none, .pointer none, v10, v11] 38 := hb4'
  have hz4 := hz3.step hfr4 (by omega) hc4
  have hr4 := hr3.fr hfr4 (by omega)
  have he4 := he3.fr hfr4 (by omega)
  have hf4 := hf3.trans hfr4
  rw [hs3] at hs4
  clear hb3 hb4' hc4 hz3 hr3 he3 hf3 hfr4 hs3
  go_wp2_with fail
  refine (own11_false hb4 (i := 4) rfl).mono ?_
  rintro e w5 ⟨rfl, hs5, hb5', hc5, hfr5⟩
  rw [hs4] at hb5' hc5
  have hb5 : Blk w5 wb #[ptr (w.heap.size + 2), ptr (w.heap.size + 3), ptr (w.heap.size + 4), ptr (w.heap.size + 5), ptr (w.heap.size + 6), .pointer none, .pointer none, .pointer none, .pointer none, .pointer none, v10, v11] 38 := hb5'
  have hz5 := hz4.step hfr5 (by omega) hc5
  have hr5 := hr4.fr hfr5 (by omega)
  have he5 := he4.fr hfr5 (by omega)
  have hf5 := hf4.trans hfr5
  rw [hs4] at hs5
  clear hb4 hb5' hc5 hz4 hr4 he4 hf4 hfr5 hs4
  go_wp2_with fail
  refine (own11_false hb5 (i := 5) rfl).mono ?_
  rintro e w6 ⟨rfl, hs6, hb6', hc6, hfr6⟩
  rw [hs5] at hb6' hc6
  have hb6 : Blk w6 wb #[ptr (w.heap.size + 2), ptr (w.heap.size + 3), ptr (w.heap.size + 4), ptr (w.heap.size + 5), ptr (w.heap.size + 6), ptr (w.heap.size + 7), .pointer none, .pointer none, .pointer none, .pointer none, v10, v11] 38 := hb6'
  have hz6 := hz5.step hfr6 (by omega) hc6
  have hr6 := hr5.fr hfr6 (by omega)
  have he6 := he5.fr hfr6 (by omega)
  have hf6 := hf5.trans hfr6
  rw [hs5] at hs6
  clear hb5 hb6' hc6 hz5 hr5 he5 hf5 hfr6 hs5
  go_wp2_with fail
  refine (own13_false hb6 (i := 6) rfl).mono ?_
  rintro e w7 ⟨rfl, hs7, hb7', hc7, hfr7⟩
  rw [hs6] at hb7' hc7
  have hb7 : Blk w7 wb #[ptr (w.heap.size + 2), ptr (w.heap.size + 3), ptr (w.heap.size + 4), ptr (w.heap.size + 5), ptr (w.heap.size + 6), ptr (w.heap.size + 7), ptr (w.heap.size + 8), .pointer none, .pointer none, .pointer none, v10, v11] 38 := hb7'
  have hz7 := hz6.step hfr7 (by omega) hc7
  have hr7 := hr6.fr hfr7 (by omega)
  have he7 := he6.fr hfr7 (by omega)
  have hf7 := hf6.trans hfr7
  rw [hs6] at hs7
  clear hb6 hb7' hc7 hz6 hr6 he6 hf6 hfr7 hs6
  go_wp2_with fail
  refine (own14_false hb7 (i := 7) rfl).mono ?_
  rintro e w8 ⟨rfl, hs8, hb8', hc8, hfr8⟩
  rw [hs7] at hb8' hc8
  have hb8 : Blk w8 wb #[ptr (w.heap.size + 2), ptr (w.heap.size + 3), ptr (w.heap.size + 4), ptr (w.heap.size + 5), ptr (w.heap.size + 6), ptr (w.heap.size + 7), ptr (w.heap.size + 8), ptr (w.heap.size + 9), .pointer none, .pointer none, v10, v11] 38 := hb8'
  have hz8 := hz7.step hfr8 (by omega) hc8
  have hr8 := hr7.fr hfr8 (by omega)
  have he8 := he7.fr hfr8 (by omega)
  have hf8 := hf7.trans hfr8
  rw [hs7] at hs8
  clear hb7 hb8' hc8 hz7 hr7 he7 hf7 hfr8 hs7
  go_wp2_with fail
  refine (own11_false hb8 (i := 8) rfl).mono ?_
  rintro e w9 ⟨rfl, hs9, hb9', hc9, hfr9⟩
  rw [hs8] at hb9' hc9
  have hb9 : Blk w9 wb #[ptr (w.heap.size + 2), ptr (w.heap.size + 3), ptr (w.heap.size + 4), ptr (w.heap.size + 5), ptr (w.heap.size + 6), ptr (w.heap.size + 7), ptr (w.heap.size + 8), ptr (w.heap.size + 9), ptr (w.heap.size + 10), .pointer none, v10, v11] 38 := hb9'
  have hz9 := hz8.step hfr9 (by omega) hc9
  have hr9 := hr8.fr hfr9 (by omega)
  have he9 := he8.fr hfr9 (by omega)
  have hf9 := hf8.trans hfr9
  rw [hs8] at hs9
  clear hb8 hb9' hc9 hz8 hr8 he8 hf8 hfr9 hs8
  go_wp2_with fail
  refine (own15_false hb9 (i := 9) rfl).mono ?_
  rintro e w10 ⟨rfl, hs10, hb10', hc10, hfr10⟩
  rw [hs9] at hb10' hc10
  have hb10 : Blk w10 wb #[ptr (w.heap.size + 2), ptr (w.heap.size + 3), ptr (w.heap.size + 4), ptr (w.heap.size + 5), ptr (w.heap.size + 6), ptr (w.heap.size + 7), ptr (w.heap.size + 8), ptr (w.heap.size + 9), ptr (w.heap.size + 10), ptr (w.heap.size + 11), v10, v11] 38 := hb10'
  have hz10 := hz9.step hfr10 (by omega) hc10
  have hr10 := hr9.fr hfr10 (by omega)
  have he10 := he9.fr hfr10 (by omega)
  have hf10 := hf9.trans hfr10
  rw [hs9] at hs10
  clear hb9 hb10' hc10 hz9 hr9 he9 hf9 hfr10 hs9
  go_wp2
  go_ret
  exact ⟨rfl, hs10, hr10, he10, hb10, hz10, hf10⟩

set_option maxRecDepth 20000 in
set_option maxHeartbeats 1000000 in
/-- newEdit of a copy -/
theorem newEdit_true {w : World} {wb Q : Nat} {v10 v11 : Value} {B : Nat → Option Nat} {N : Nat → Int} {O : Nat → Bool} (h : Blk w wb #[ptr Q, ptr (Q + 1), ptr (Q + 2), ptr (Q + 3), ptr (Q + 4), ptr (Q + 5), ptr (Q + 6), ptr (Q + 7), ptr (Q + 8), ptr (Q + 9), v10, v11] 38) (hQ : ∀ i, i < 10 → Cow w (Q + i) (tyOf i) (B i) none (N i) (O i) false) (hwQ : wb < Q ∨ Q + 10 ≤ wb) :
    Calls Yba.prog 5 #[ptr wb, .bool true] w fun e w' => e = .returned (ptr (w.heap.size + 1)) ∧ w'.heap.size = w.heap.size + 13 ∧ MapF w' w.heap.size (fun _ => none) ∧ w'.heap[w.heap.size + 2]? = some (.map #[] 0) ∧ Blk w' (w.heap.size + 1) #[ptr wb, .map (some (w.heap.size + 2)), .map (some w.heap.size), .slice none 0 0, ptr (Q + 2)] 46 ∧
      Blk w' wb #[ptr (w.heap.size + 3), ptr (w.heap.size + 4), ptr (w.heap.size + 5), ptr (w.heap.size + 6), ptr (w.heap.size + 7), ptr (w.heap.size + 8), ptr (w.heap.size + 9), ptr (w.heap.size + 10), ptr (w.heap.size + 11), ptr (w.heap.size + 12), v10, v11] 38 ∧ Clones B N O w' Q (w.heap.size + 3) 10 ∧ Fr (fun x => x = wb ∨ (Q ≤ x ∧ x < Q + 10)) w w' := by
  have hm0 : wb < w.heap.size := h.lt
  have hQ9 : Q + 9 < w.heap.size := (hQ 9 (by omega)).lt
  have hmm := @run_makeMap Yba.prog
  have hc2 : ∀ o1 o2 o3, (((w.alloc o1).alloc o2).alloc o3).cell? ⟨wb, 2, none⟩ = some (ptr (Q + 2)) := fun o1 o2 o3 => (((h.alloc o1).alloc o2).alloc o3).cell 2
  obtain ⟨w0, hw0⟩ : ∃ w0, w0 = ((w.alloc (.map #[] 0)).alloc (.cells #[ptr wb, .map (some (w.heap.size + 1 + 1)), .map (some w.heap.size), .slice none 0 0, ptr (Q + 2)] 46)).alloc (.map #[] 0) := ⟨_, rfl⟩
  have hs0 : w0.heap.size = w.heap.size + 3 := by rw [hw0]; simp
  have hb0 : Blk w0 wb #[ptr Q, ptr (Q + 1), ptr (Q + 2), ptr (Q + 3), ptr (Q + 4), ptr (Q + 5), ptr (Q + 6), ptr (Q + 7), ptr (Q + 8), ptr (Q + 9), v10, v11] 38 := by rw [hw0]; exact ((h.alloc _).alloc _).alloc _
  have hr0 : MapF w0 w.heap.size (fun _ => none) := by rw [hw0]; exact ((mapF_new w).alloc _).alloc _
  have he0 : Blk w0 (w.heap.size + 1) #[ptr wb, .map (some (w.heap.size + 2)), .map (some w.heap.size), .slice none 0 0, ptr (Q + 2)] 46 := by
    rw [hw0]
    have := blk_new (w.alloc (.map #[] 0)) #[ptr wb, .map (some (w.heap.size + 2)), .map (some w.heap.size), .slice none 0 0, ptr (Q + 2)] 46
    rw [World.size_alloc] at this
    exact this.alloc _
  have hm0' : w0.heap[w.heap.size + 2]? = some (.map #[] 0) := by
    rw [hw0]
    have := heap_alloc_new ((w.alloc (.map #[] 0)).alloc (.cells #[ptr wb, .map (some (w.heap.size + 2)), .map (some w.heap.size), .slice none 0 0, ptr (Q + 2)] 46)) (.map #[] 0)
    rw [World.size_alloc, World.size_alloc] at this
    exact this
  have hz0 : Clones B N O w0 Q (w.heap.size + 3) 0 := ⟨fun i hi => by omega, fun i hi => by omega, fun i _ hi => by rw [hw0]; exact ((Blk.alloc (hQ i hi) _).alloc _).alloc _⟩
  have hf0 : Fr (fun x => x = wb ∨ (Q ≤ x ∧ x < Q + 10)) w w0 := by rw [hw0]; exact (((Fr.refl _ _).alloc _).alloc _).alloc _
  go_enter Yba.func5, Yba.ntmps5
  go_wp2_with fail
  rw [← hw0]
  clear hw0 h hmm hc2 hQ
  refine (own10_true hb0 (i := 0) (p := Q + 0) rfl (hz0.rest 0 (by omega) (by omega))).mono ?_
  rintro e w1 ⟨rfl, hs1, hb1', hc1, hd1, hfr1⟩
  rw [hs0] at hb1' hd1
  have hb1 : Blk w1 wb #[ptr (w.heap.size + 3), ptr (Q + 1), ptr (Q + 2), ptr (Q + 3), ptr (Q + 4), ptr (Q + 5), ptr (Q + 6), ptr (Q + 7), ptr (Q + 8), ptr (Q + 9), v10, v11] 38 := hb1'
  have hz1 := hz0.step hfr1 hwQ (by omega) (by omega) hc1 hd1 (by omega)
  have hr1 := hr0.fr hfr1 (by omega)
  have he1 := he0.fr hfr1 (by omega)
  have hm1' := (hfr1.block (w.heap.size + 2) (by omega) (by omega)).trans hm0'
  have hf1 := hf0.trans (hfr1.mono (fun x _ hx => by omega))
  rw [hs0] at hs1
  clear hb0 hb1' hc1 hd1 hz0 hr0 he0 hm0' hf0 hfr1 hs0
  go_wp2_with fail
  refine (own11_true hb1 (i := 1) (p := Q + 1) rfl (hz1.rest 1 (by omega) (by omega))).mono ?_
  rintro e w2 ⟨rfl, hs2, hb2', hc2, hd2, hfr2⟩
  rw [hs1] at hb2' hd2
  have hb2 : Blk w2 wb #[ptr (w.heap.size + 3), ptr (w.heap.size + 4), ptr (Q + 2), ptr (Q + 3), ptr (Q + 4), ptr (Q + 5), ptr (Q + 6), ptr (Q + 7), ptr (Q + 8), ptr (Q + 9), v10, v11] 38 := hb2'
  have hz2 := hz1.step hfr2 hwQ (by omega) (by omega) hc2 hd2 (by omega)
  have hr2 := hr1.fr hfr2 (by omega)
  have he2 := he1.fr hfr2 (by omega)
  have hm2' := (hfr2.block (w.heap.size + 2) (by omega) (by omega)).trans hm1'
  have hf2 := hf1.trans (hfr2.mono (fun x _ hx => by omega))
  rw [hs1] at hs2
  clear hb1 hb2' hc2 hd2 hz1 hr1 he1 hm1' hf1 hfr2 hs1
  go_wp2_with fail
  refine (own12_true hb2 (i := 2) (p := Q + 2) rfl (hz2.rest 2 (by omega) (by omega))).mono ?_
  rintro e w3 ⟨rfl, hs3, hb3', hc3, hd3, hfr3⟩
  rw [hs2] at hb3' hd3
  have hb3 : Blk w3 wb #[ptr (w.heap.size + 3), ptr (w.heap.size + 4), ptr (w.heap.size + 5), ptr (Q + 3), ptr (Q + 4), ptr (Q + 5), ptr (Q + 6), ptr (Q + 7), ptr (Q + 8), ptr (Q + 9), v10, v11] 38 := hb3'
  have hz3 := hz2.step hfr3 hwQ (by omega) (by omega) hc3 hd3 (by omega)
  have hr3 := hr2.fr hfr3 (by omega)
  have he3 := he2.fr hfr3 (by omega)
  have hm3' := (hfr3.block (w.heap.size + 2) (by omega) (by omega)).trans hm2'
  have hf3 := hf2.trans (hfr3.mono (fun x _ hx => by omega))
  rw [hs2] at hs3
  clear hb2 hb3' hc3 hd3 hz2 hr2 he2 hm2' hf2 hfr3 hs2
  go_wp2_with fail
  refine (own11_true hb3 (i := 3) (p := Q + 3) rfl (hz3.rest 3 (by omega) (by omega))).mono ?_
  rintro e w4 ⟨rfl, hs4, hb4', hc4, hd4, hfr4⟩
  rw [hs3] at hb4' hd4
  have hb4 : Blk w4 wb #[ptr (w.heap.size + 3), ptr (w.heap.size + 4), ptr (w.heap.size + 5), ptr (w.heap.size + 6), ptr (Q + 4), ptr (Q + 5), ptr (Q + 6), ptr (Q + 7), ptr (Q + 8), ptr (Q + 9), v10, v11] 38 := hb4'
  have hz4 := hz3.step hfr4 hwQ (by omega) (by omega) hc4 hd4 (by omega)
  have hr4 := hr3.fr hfr4 (by omega)
  have he4 := he3.fr hfr4 (by omega)
  have hm4' := (hfr4.block (w.heap.size + 2) (by omega) (by omega)).trans hm3'
  have hf4 := hf3.trans (hfr4.mono (fun x _ hx => by omega))
  rw [hs3] at hs4
  clear hb3 hb4' hc4 hd4 hz3 hr3 he3 hm3' hf3 hfr4 hs3
  go_wp2_with fail
  refine (own11_true hb4 (i := 4) (p := Q + 4) rfl (hz4.rest 4 (by omega) (by omega))).mono ?_
  rintro e w5 ⟨rfl, hs5, hb5', hc5, hd5, hfr5⟩
  rw [hs4] at hb5' hd5
  have hb5 : Blk w5 wb #[ptr (w.heap.size + 3), ptr (w.heap.size + 4), ptr (w.heap.size + 5), ptr (w.heap.size + 6), ptr (w.heap.size + 7), ptr (Q + 5), ptr (Q + 6), ptr (Q + 7), ptr (Q + 8), ptr (Q + 9), v10, v11] 38 := hb5'
  have hz5 := hz4.step hfr5 hwQ (by omega) (by omega) hc5 hd5 (by omega)
  have hr5 := hr4.fr hfr5 (by omega)
  have he5 := he4.fr hfr5 (by omega)
  have hm5' := (hfr5.block (w.heap.size + 2) (by omega) (by omega)).trans hm4'
  have hf5 := hf4.trans (hfr5.mono (fun x _ hx => by omega))
  rw [hs4] at hs5
  clear hb4 hb5' hc5 hd5 hz4 hr4 he4 hm4' hf4 hfr5 hs4
  go_wp2_with fail
  refine (own11_true hb5 (i := 5) (p := Q + 5) rfl (hz5.rest 5 (by omega) (by omega))).mono ?_
  rintro e w6 ⟨rfl, hs6, hb6', hc6, hd6, hfr6⟩
  rw [hs5] at hb6' hd6
  have hb6 : Blk w6 wb #[ptr (w.heap.size + 3), ptr (w.heap.size + 4), ptr (w.heap.size + 5), ptr (w.heap.size + 6), ptr (w.heap.size + 7), ptr (w.heap.size + 8), ptr (Q + 6), ptr (Q + 7), ptr (Q + 8), ptr (Q + 9), v10, v11] 38 := hb6'
  have hz6 := hz5.step hfr6 hwQ (by omega) (by omega) hc6 hd6 (by omega)
  have hr6 := hr5.fr hfr6 (by omega)
  have he6 := he5.fr hfr6 (by omega)
  have hm6' := (hfr6.block (w.heap.size + 2) (by omega) (by omega)).trans hm5'
  have hf6 := hf5.trans (hfr6.mono (fun x _ hx => by omega))
  rw [hs5] at hs6
  clear hb5 hb6' hc6 hd6 hz5 hr5 he5 hm5' hf5 hfr6 hs5
  go_wp2_with fail
  refine (own13_true hb6 (i := 6) (p := Q + 6) rfl (hz6.rest 6 (by omega) (by omega))).mono ?_
  rintro e w7 ⟨rfl, hs7, hb7', hc7, hd7, hfr7⟩
  rw [hs6] at hb7' hd7
  have hb7 : Blk w7 wb #[ptr (w.heap.size + 3), ptr (w.heap.size + 4), ptr (w.heap.size + 5), ptr (w.heap.size + 6), ptr (w.heap.size + 7), ptr (w.heap.size + 8), ptr (w.heap.size + 9), ptr (Q + 7), ptr (Q + 8), ptr (Q + 9), v10, v11] 38 := hb7'
  have hz7 := hz6.step hfr7 hwQ (by omega) (by omega) hc7 hd7 (by omega)
  have hr7 := hr6.fr hfr7 (by omega)
  have he7 := he6.fr hfr7 (by omega)
  have hm7' := (hfr7.block (w.heap.size + 2) (by omega) (by omega)).trans hm6'
  have hf7 := hf6.trans (hfr7.mono (fun x _ hx => by omega))
  rw [hs6] at hs7
  clear hb6 hb7' hc7 hd7 hz6 hr6 he6 hm6' hf6 hfr7 hs6
  go_wp2_with fail
  refine (own14_true hb7 (i := 7) (p := Q + 7) rfl (hz7.rest 7 (by omega) (by omega))).mono ?_
  rintro e w8 ⟨rfl, hs8, hb8', hc8, hd8, hfr8⟩
  rw [hs7] at hb8' hd8
  have hb8 : Blk w8 wb #[ptr (w.heap.size + 3), ptr (w.heap.size + 4), ptr (w.heap.size + 5), ptr (w.heap.size + 6), ptr (w.heap.size + 7), ptr (w.heap.size + 8), ptr (w.heap.size + 9), ptr (w.heap.size + 10), ptr (Q + 8), ptr (Q + 9), v10, v11] 38 := hb8'
  have hz8 := hz7.step hfr8 hwQ (by omega) (by omega) hc8 hd8 (by omega)
  have hr8 := hr7.fr hfr8 (by omega)
  have he8 := he7.fr hfr8 (by omega)
  have hm8' := (hfr8.block (w.heap.size + 2) (by omega) (by omega)).trans hm7'
  have hf8 := hf7.trans (hfr8.mono (fun x _ hx => by omega))
  rw [hs7] at hs8
  clear hb7 hb8' hc8 hd8 hz7 hr7 he7 hm7' hf7 hfr8 hs7
  go_wp2_with fail
  refine (own11_true hb8 (i := 8) (p := Q + 8) rfl (hz8.rest 8 (by omega) (by omega))).mono ?_
  rintro e w9 ⟨rfl, hs9, hb9', hc9, hd9, hfr9⟩
  rw [hs8] at hb9' hd9
  have hb9 : Blk w9 wb #[ptr (w.heap.size + 3), ptr (w.heap.size + 4), ptr (w.heap.size + 5), ptr (w.heap.size + 6), ptr (w.heap.size + 7), ptr (w.heap.size + 8), ptr (w.heap.size + 9), ptr (w.heap.size + 10), ptr (w.heap.size + 11), ptr (Q + 9), v10, v11] 38 := hb9'
  have hz9 := hz8.step hfr9 hwQ (by omega) (by omega) hc9 hd9 (by omega)
  have hr9 := hr8.fr hfr9 (by omega)
  have he9 := he8.fr hfr9 (by omega)
  have hm9' := (hfr9.block (w.heap.size + 2) (by omega) (by omega)).trans hm8'
  have hf9 := hf8.trans (hfr9.mono (fun x _ hx => by omega))
  rw [hs8] at hs9
  clear hb8 hb9' hc9 hd9 hz8 hr8 he8 hm8' hf8 hfr9 hs8
  go_wp2_with fail
  refine (own15_true hb9 (i := 9) (p := Q + 9) rfl (hz9.rest 9 (by omega) (by omega))).mono ?_
  rintro e w10 ⟨rfl, hs10, hb10', hc10, hd10, hfr10⟩
  rw [hs9] at hb10' hd10
  have hb10 : Blk w10 wb #[ptr (w.heap.size + 3), ptr (w.heap.size + 4), ptr (w.heap.size + 5), ptr (w.heap.size + 6), ptr (w.heap.size + 7), ptr (w.heap.size + 8), ptr (w.heap.size + 9), ptr (w.heap.size + 10), ptr (w.heap.size + 11), ptr (w.heap.size + 12), v10, v11] 38 := hb10'
  have hz10 := hz9.step hfr10 hwQ (by omega) (by omega) hc10 hd10 (by omega)
  have hr10 := hr9.fr hfr10 (by omega)
  have he10 := he9.fr hfr10 (by omega)
  have hm10' := (hfr10.block (w.heap.size + 2) (by omega) (by omega)).trans hm9'
  have hf10 := hf9.trans (hfr10.mono (fun x _ hx => by omega))
  rw [hs9] at hs10
  clear hb9 hb10' hc10 hd10 hz9 hr9 he9 hm9' hf9 hfr10 hs9
  go_wp2
  go_ret
  exact ⟨rfl, hs10, hr10, hm10', he10, hb10, hz10, hf10⟩

end Go.Proofs.Ybulkeipw
