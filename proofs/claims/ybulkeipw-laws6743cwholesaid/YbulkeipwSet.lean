import Derived.Test.YbulkeipwPut3
namespace Go.Proofs.Ybulkeipw
open Go.RowKit
set_option linter.unusedVariables false

/-! ### Set 16 -/
theorem pcow_below {w w' : World} {m : Nat} {b c : Option Nat} {n : Int} {ob oc : Bool} (h : Cow w m 93 b c n ob oc) (hb : Below w.heap.size w w') : Cow w' m 93 b c n ob oc := Blk.congr h (hb.block _ (Blk.lt h))
theorem pcow_size {w : World} {m : Nat} {b c : Option Nat} {n : Int} {ob oc : Bool} (h : Cow w m 93 b c n ob oc) (n' : Int) : Cow (w.setCell ⟨m, 2, none⟩ (.int .i64 n')) m 93 b c n' ob oc := Blk.setCell h 2 (.int .i64 n')

set_option maxRecDepth 20000 in
theorem pset_new {w : World} {m : Nat} {n : Int} (h : Cow w m 93 none none n false false) (h0 : 0 ≤ n) (h1 : n ≤ 100000) (k : ByteArray) (sv : ByteArray) :
    Calls Yba.prog 16 #[.pointer (some ⟨m, 0, none⟩), .string k, .string sv] w fun e w' => e = .returned (.tuple #[]) ∧ (∃ b, w.heap.size ≤ b ∧ Cow w' m 93 (some b) none (n + 1) true false ∧ MapF w' b (fun j => if j = k then some (.string sv) else none)) ∧ Fr (· = m) w w' := by
  go_enter Yba.func16, Yba.ntmps16
  go_wp2_with fail
  refine (plook_new h k).mono ?_
  rintro e w1 ⟨rfl, hb⟩
  have hc1 := pcow_below h hb
  have c2 : w1.cell? ⟨m, 2, none⟩ = some (.int .i64 n) := hc1.cell 2
  have f2 : w1.frozen? ⟨m, 2, none⟩ = false := hc1.frozen 2
  go_wp2_with fail
  refine (pput_new (pcow_size hc1 (n + 1)) k sv).mono ?_
  rintro e w2 ⟨rfl, ⟨b, hb1, hb2, hb3⟩, hfr⟩
  have hsz := hb.size
  have FIN : Hid ((∃ b, w.heap.size ≤ b ∧ Cow w2 m 93 (some b) none (n + 1) true false ∧ MapF w2 b (fun j => if j = k then some (.string sv) else none)) ∧ Fr (· = m) w w2) :=
    ⟨⟨b, by rw [size_setCell] at hb1; omega, hb2, hb3⟩, ((Fr.of_below (S := fun x => x = m) hb).setCell ⟨m, 2, none⟩ _ (fun _ => rfl)).trans hfr⟩
  clear hfr hb1 hb2 hb3 hsz
  go_wp2
  first | go_end0 | refine bodyPost_ret (results_none rfl _ _ _) rfl ?_
  exact ⟨rfl, FIN.out⟩

set_option maxRecDepth 20000 in
theorem pset_own {w : World} {m b : Nat} {n : Int} {f : ByteArray → Option Value} (h : Cow w m 93 (some b) none n true false) (hf : MapF w b f) (h0 : 0 ≤ n) (h1 : n ≤ 100000) (k : ByteArray) (sv : ByteArray) :
    Calls Yba.prog 16 #[.pointer (some ⟨m, 0, none⟩), .string k, .string sv] w fun e w' => e = .returned (.tuple #[]) ∧ Cow w' m 93 (some b) none (if (f k).isSome then n else n + 1) true false ∧ MapF w' b (fun j => if j = k then some (.string sv) else f j) ∧ Fr (fun x => x = m ∨ x = b) w w' := by
  have hne : m ≠ b := h.ne_map hf
  have lk := plook_plain h hf k
  cases hk : (f k).isSome with
  | true =>
    simp only [ans, hk] at lk
    go_enter Yba.func16, Yba.ntmps16
    go_wp2_with fail
    refine lk.mono ?_
    rintro e w1 ⟨rfl, hb⟩
    have hc1 := pcow_below h hb
    have hf1 := hf.congr (hb.block _ hf.lt)
    go_wp2_with fail
    refine (pput_own hc1 hf1 k sv).mono ?_
    rintro e w2 ⟨rfl, hm2, hfr⟩
    have FIN : Hid (Cow w2 m 93 (some b) none n true false ∧ MapF w2 b (fun j => if j = k then some (.string sv) else f j) ∧ Fr (fun x => x = m ∨ x = b) w w2) :=
      ⟨Blk.fr hc1 hfr hne, hm2, (Fr.of_below hb).trans (hfr.mono (fun x _ hx => .inr hx))⟩
    clear hfr hm2
    go_wp2
    first | go_end0 | refine bodyPost_ret (results_none rfl _ _ _) rfl ?_
    exact ⟨rfl, FIN.out⟩
  | false =>
    simp only [ans, hk] at lk
    go_enter Yba.func16, Yba.ntmps16
    go_wp2_with fail
    refine lk.mono ?_
    rintro e w1 ⟨rfl, hb⟩
    have hc1 := pcow_below h hb
    have hf1 := hf.congr (hb.block _ hf.lt)
    have c2 : w1.cell? ⟨m, 2, none⟩ = some (.int .i64 n) := hc1.cell 2
    have f2 : w1.frozen? ⟨m, 2, none⟩ = false := hc1.frozen 2
    go_wp2_with fail
    refine (pput_own (pcow_size hc1 (n + 1)) (hf1.setCell _ _) k sv).mono ?_
    rintro e w2 ⟨rfl, hm2, hfr⟩
    have FIN : Hid (Cow w2 m 93 (some b) none (n + 1) true false ∧ MapF w2 b (fun j => if j = k then some (.string sv) else f j) ∧ Fr (fun x => x = m ∨ x = b) w w2) :=
      ⟨Blk.fr (pcow_size hc1 (n + 1)) hfr hne, hm2, ((Fr.of_below hb).setCell ⟨m, 2, none⟩ _ (fun _ => .inl rfl)).trans (hfr.mono (fun x _ hx => .inr hx))⟩
    clear hfr hm2
    go_wp2
    first | go_end0 | refine bodyPost_ret (results_none rfl _ _ _) rfl ?_
    exact ⟨rfl, FIN.out⟩

/-! ### Get 19, Len 24 -/
theorem pget_of {w : World} {m : Nat} {x : Option Value} (k : ByteArray) (h : Calls Yba.prog 23 #[.pointer (some ⟨m, 0, none⟩), .string k] w fun e w' => e = .returned (ans (.string { data := #[] }) x) ∧ Below w.heap.size w w') :
    Calls Yba.prog 19 #[.pointer (some ⟨m, 0, none⟩), .string k] w fun e w' => e = .returned (x.getD (.string { data := #[] })) ∧ Below w.heap.size w w' := by
  have H := h
  clear h
  go_enter Yba.func19, Yba.ntmps19
  go_wp2_with fail
  refine H.mono ?_
  rintro e w1 ⟨rfl, hb⟩
  go_wp2
  go_ret
  exact ⟨rfl, hb⟩

theorem plen {w : World} {m : Nat} {b c : Option Nat} {n : Int} {ob oc : Bool} (h : Cow w m 93 b c n ob oc) :
    Calls Yba.prog 24 #[.pointer (some ⟨m, 0, none⟩)] w fun e w' => e = .returned (.int .i64 n) ∧ w' = w := by
  have c2 : w.cell? ⟨m, 2, none⟩ = some (.int .i64 n) := h.cell 2
  clear h
  go_enter Yba.func24, Yba.ntmps24
  go_wp2
  go_ret
  exact ⟨rfl, rfl⟩

/-! ### Delete 20 -/
set_option maxRecDepth 20000 in
theorem pdel_own {w : World} {m b : Nat} {n : Int} {f : ByteArray → Option Value} (h : Cow w m 93 (some b) none n true false) (hf : MapF w b f) (h0 : 1 ≤ n) (h1 : n ≤ 100000) (k : ByteArray) (hk : (f k).isSome = true) :
    Calls Yba.prog 20 #[.pointer (some ⟨m, 0, none⟩), .string k] w fun e w' => e = .returned (.tuple #[]) ∧ Cow w' m 93 (some b) none (n - 1) true false ∧ MapF w' b (fun j => if j = k then none else f j) ∧ Fr (fun x => x = m ∨ x = b) w w' := by
  have hne : m ≠ b := h.ne_map hf
  have lk := plook_plain h hf k
  simp only [ans, hk] at lk
  go_enter Yba.func20, Yba.ntmps20
  go_wp2_with fail
  refine lk.mono ?_
  rintro e w1 ⟨rfl, hb⟩
  have hc1 := pcow_below h hb
  have hf1 := hf.congr (hb.block _ hf.lt)
  have c2 : w1.cell? ⟨m, 2, none⟩ = some (.int .i64 n) := hc1.cell 2
  have f2 : w1.frozen? ⟨m, 2, none⟩ = false := hc1.frozen 2
  go_wp2_with fail
  refine (pput_gone (pcow_size hc1 (n - 1)) (hf1.setCell _ _) k).mono ?_
  rintro e w2 ⟨rfl, hm2, hfr⟩
  have FIN : Hid (Cow w2 m 93 (some b) none (n - 1) true false ∧ MapF w2 b (fun j => if j = k then none else f j) ∧ Fr (fun x => x = m ∨ x = b) w w2) :=
    ⟨Blk.fr (pcow_size hc1 (n - 1)) hfr hne, hm2, ((Fr.of_below hb).setCell ⟨m, 2, none⟩ _ (fun _ => .inl rfl)).trans (hfr.mono (fun x _ hx => .inr hx))⟩
  clear hfr hm2
  go_wp2
  first | go_end0 | refine bodyPost_ret (results_none rfl _ _ _) rfl ?_
  exact ⟨rfl, FIN.out⟩

set_option maxRecDepth 20000 in
theorem pdel_fork {w : World} {m b : Nat} {n : Int} {f : ByteArray → Option Value} (h : Cow w m 93 (some b) none n false false) (hf : MapF w b f) (h0 : 1 ≤ n) (h1 : n ≤ 100000) (k : ByteArray) (hk : (f k).isSome = true) :
    Calls Yba.prog 20 #[.pointer (some ⟨m, 0, none⟩), .string k] w fun e w' => e = .returned (.tuple #[]) ∧ (∃ c, w.heap.size ≤ c ∧ Cow w' m 93 (some b) (some c) (n - 1) false true ∧ MapF w' c (pone k (.string { data := #[] }) true)) ∧ Fr (fun x => x = m) w w' := by
  have lk := plook_plain h hf k
  simp only [ans, hk] at lk
  have hex : ∃ j, (f j).isSome = true := ⟨k, hk⟩
  go_enter Yba.func20, Yba.ntmps20
  go_wp2_with fail
  refine lk.mono ?_
  rintro e w1 ⟨rfl, hb⟩
  have hc1 := pcow_below h hb
  have hf1 := hf.congr (hb.block _ hf.lt)
  have c2 : w1.cell? ⟨m, 2, none⟩ = some (.int .i64 n) := hc1.cell 2
  have f2 : w1.frozen? ⟨m, 2, none⟩ = false := hc1.frozen 2
  go_wp2_with fail
  refine (pput_fork (pcow_size hc1 (n - 1)) (hf1.setCell _ _) hex k { data := #[] } true).mono ?_
  rintro e w2 ⟨rfl, ⟨c, q1, q2, q3⟩, hfr⟩
  have hsz := hb.size
  have FIN : Hid ((∃ c, w.heap.size ≤ c ∧ Cow w2 m 93 (some b) (some c) (n - 1) false true ∧ MapF w2 c (pone k (.string { data := #[] }) true)) ∧ Fr (fun x => x = m) w w2) :=
    ⟨⟨c, by rw [size_setCell] at q1; omega, q2, q3⟩, ((Fr.of_below (S := fun x => x = m) hb).setCell ⟨m, 2, none⟩ _ (fun _ => rfl)).trans hfr⟩
  clear hfr q1 q2 q3 hsz
  go_wp2
  first | go_end0 | refine bodyPost_ret (results_none rfl _ _ _) rfl ?_
  exact ⟨rfl, FIN.out⟩

set_option maxRecDepth 20000 in
/-- a delete at the one changed key -/
theorem pdel_again {w : World} {m b c : Nat} {n : Int} {f : ByteArray → Option Value} {k : ByteArray} (sv : ByteArray) (h : Cow w m 93 (some b) (some c) n false true) (hf : MapF w b f) (hc : MapF w c (pone k (.string sv) false)) (hbc : b ≠ c) (hsome : ∃ j, (f j).isSome = true) (h0 : 1 ≤ n) (h1 : n ≤ 100000) :
    Calls Yba.prog 20 #[.pointer (some ⟨m, 0, none⟩), .string k] w fun e w' => e = .returned (.tuple #[]) ∧ Cow w' m 93 (some b) (some c) (n - 1) false true ∧ MapF w' c (pone k (.string { data := #[] }) true) ∧ Fr (fun x => x = m ∨ x = c) w w' := by
  have hne : m ≠ c := h.ne_map hc
  have lk := plook_at sv false h hc
  go_enter Yba.func20, Yba.ntmps20
  go_wp2_with fail
  refine lk.mono ?_
  rintro e w1 ⟨rfl, hb⟩
  have hc1 := pcow_below h hb
  have hf1 := hf.congr (hb.block _ hf.lt)
  have hcc1 := hc.congr (hb.block _ hc.lt)
  have c2 : w1.cell? ⟨m, 2, none⟩ = some (.int .i64 n) := hc1.cell 2
  have f2 : w1.frozen? ⟨m, 2, none⟩ = false := hc1.frozen 2
  go_wp2_with fail
  refine (pput_again (pcow_size hc1 (n - 1)) (hf1.setCell _ _) (hcc1.setCell _ _) hbc hsome { data := #[] } true).mono ?_
  rintro e w2 ⟨rfl, hm2, hfr⟩
  have FIN : Hid (Cow w2 m 93 (some b) (some c) (n - 1) false true ∧ MapF w2 c (pone k (.string { data := #[] }) true) ∧ Fr (fun x => x = m ∨ x = c) w w2) :=
    ⟨Blk.fr (pcow_size hc1 (n - 1)) hfr hne, hm2, ((Fr.of_below hb).setCell ⟨m, 2, none⟩ _ (fun _ => .inl rfl)).trans (hfr.mono (fun x _ hx => .inr hx))⟩
  clear hfr hm2
  go_wp2
  first | go_end0 | refine bodyPost_ret (results_none rfl _ _ _) rfl ?_
  exact ⟨rfl, FIN.out⟩

set_option maxRecDepth 20000 in
/-- a set in a shared Map, at a key that is there -/
theorem pset_fork {w : World} {m b : Nat} {n : Int} {f : ByteArray → Option Value} (h : Cow w m 93 (some b) none n false false) (hf : MapF w b f) (k : ByteArray) (hk : (f k).isSome = true) (sv : ByteArray) :
    Calls Yba.prog 16 #[.pointer (some ⟨m, 0, none⟩), .string k, .string sv] w fun e w' => e = .returned (.tuple #[]) ∧ (∃ c, w.heap.size ≤ c ∧ Cow w' m 93 (some b) (some c) n false true ∧ MapF w' c (pone k (.string sv) false)) ∧ Fr (fun x => x = m) w w' := by
  have lk := plook_plain h hf k
  simp only [ans, hk] at lk
  have hex : ∃ j, (f j).isSome = true := ⟨k, hk⟩
  go_enter Yba.func16, Yba.ntmps16
  go_wp2_with fail
  refine lk.mono ?_
  rintro e w1 ⟨rfl, hb⟩
  have hc1 := pcow_below h hb
  have hf1 := hf.congr (hb.block _ hf.lt)
  go_wp2_with fail
  refine (pput_fork hc1 hf1 hex k sv false).mono ?_
  rintro e w2 ⟨rfl, ⟨c, q1, q2, q3⟩, hfr⟩
  have hsz := hb.size
  have FIN : Hid ((∃ c, w.heap.size ≤ c ∧ Cow w2 m 93 (some b) (some c) n false true ∧ MapF w2 c (pone k (.string sv) false)) ∧ Fr (fun x => x = m) w w2) :=
    ⟨⟨c, by omega, q2, q3⟩, (Fr.of_below hb).trans hfr⟩
  clear hfr q1 q2 q3 hsz
  go_wp2
  first | go_end0 | refine bodyPost_ret (results_none rfl _ _ _) rfl ?_
  exact ⟨rfl, FIN.out⟩

set_option maxRecDepth 20000 in
/-- a further set at the one changed key -/
theorem pset_again {w : World} {m b c : Nat} {n : Int} {f : ByteArray → Option Value} {k : ByteArray} (sv0 : ByteArray) (sv : ByteArray) (h : Cow w m 93 (some b) (some c) n false true) (hf : MapF w b f) (hc : MapF w c (pone k (.string sv0) false)) (hbc : b ≠ c) (hsome : ∃ j, (f j).isSome = true) :
    Calls Yba.prog 16 #[.pointer (some ⟨m, 0, none⟩), .string k, .string sv] w fun e w' => e = .returned (.tuple #[]) ∧ Cow w' m 93 (some b) (some c) n false true ∧ MapF w' c (pone k (.string sv) false) ∧ Fr (fun x => x = m ∨ x = c) w w' := by
  have hne : m ≠ c := h.ne_map hc
  have lk := plook_at sv0 false h hc
  go_enter Yba.func16, Yba.ntmps16
  go_wp2_with fail
  refine lk.mono ?_
  rintro e w1 ⟨rfl, hb⟩
  have hc1 := pcow_below h hb
  have hf1 := hf.congr (hb.block _ hf.lt)
  have hcc1 := hc.congr (hb.block _ hc.lt)
  go_wp2_with fail
  refine (pput_again hc1 hf1 hcc1 hbc hsome sv false).mono ?_
  rintro e w2 ⟨rfl, hm2, hfr⟩
  have FIN : Hid (Cow w2 m 93 (some b) (some c) n false true ∧ MapF w2 c (pone k (.string sv) false) ∧ Fr (fun x => x = m ∨ x = c) w w2) :=
    ⟨Blk.fr hc1 hfr hne, hm2, (Fr.of_below hb).trans (hfr.mono (fun x _ hx => .inr hx))⟩
  clear hfr hm2
  go_wp2
  first | go_end0 | refine bodyPost_ret (results_none rfl _ _ _) rfl ?_
  exact ⟨rfl, FIN.out⟩

/-! ### Set 18 -/
theorem ccow_below {w w' : World} {m : Nat} {b c : Option Nat} {n : Int} {ob oc : Bool} (h : Cow w m 88 b c n ob oc) (hb : Below w.heap.size w w') : Cow w' m 88 b c n ob oc := Blk.congr h (hb.block _ (Blk.lt h))
theorem ccow_size {w : World} {m : Nat} {b c : Option Nat} {n : Int} {ob oc : Bool} (h : Cow w m 88 b c n ob oc) (n' : Int) : Cow (w.setCell ⟨m, 2, none⟩ (.int .i64 n')) m 88 b c n' ob oc := Blk.setCell h 2 (.int .i64 n')

set_option maxRecDepth 20000 in
theorem cset_new {w : World} {m : Nat} {n : Int} (h : Cow w m 88 none none n false false) (h0 : 0 ≤ n) (h1 : n ≤ 100000) (k : ByteArray) (sa : Option Addr) (sl sc : Nat) :
    Calls Yba.prog 18 #[.pointer (some ⟨m, 0, none⟩), .string k, .slice sa sl sc] w fun e w' => e = .returned (.tuple #[]) ∧ (∃ b, w.heap.size ≤ b ∧ Cow w' m 88 (some b) none (n + 1) true false ∧ MapF w' b (fun j => if j = k then some (.slice sa sl sc) else none)) ∧ Fr (· = m) w w' := by
  go_enter Yba.func18, Yba.ntmps18
  go_wp2_with fail
  refine (clook_new h k).mono ?_
  rintro e w1 ⟨rfl, hb⟩
  have hc1 := ccow_below h hb
  have c2 : w1.cell? ⟨m, 2, none⟩ = some (.int .i64 n) := hc1.cell 2
  have f2 : w1.frozen? ⟨m, 2, none⟩ = false := hc1.frozen 2
  go_wp2_with fail
  refine (cput_new (ccow_size hc1 (n + 1)) k sa sl sc).mono ?_
  rintro e w2 ⟨rfl, ⟨b, hb1, hb2, hb3⟩, hfr⟩
  have hsz := hb.size
  have FIN : Hid ((∃ b, w.heap.size ≤ b ∧ Cow w2 m 88 (some b) none (n + 1) true false ∧ MapF w2 b (fun j => if j = k then some (.slice sa sl sc) else none)) ∧ Fr (· = m) w w2) :=
    ⟨⟨b, by rw [size_setCell] at hb1; omega, hb2, hb3⟩, ((Fr.of_below (S := fun x => x = m) hb).setCell ⟨m, 2, none⟩ _ (fun _ => rfl)).trans hfr⟩
  clear hfr hb1 hb2 hb3 hsz
  go_wp2
  first | go_end0 | refine bodyPost_ret (results_none rfl _ _ _) rfl ?_
  exact ⟨rfl, FIN.out⟩

set_option maxRecDepth 20000 in
theorem cset_own {w : World} {m b : Nat} {n : Int} {f : ByteArray → Option Value} (h : Cow w m 88 (some b) none n true false) (hf : MapF w b f) (h0 : 0 ≤ n) (h1 : n ≤ 100000) (k : ByteArray) (sa : Option Addr) (sl sc : Nat) :
    Calls Yba.prog 18 #[.pointer (some ⟨m, 0, none⟩), .string k, .slice sa sl sc] w fun e w' => e = .returned (.tuple #[]) ∧ Cow w' m 88 (some b) none (if (f k).isSome then n else n + 1) true false ∧ MapF w' b (fun j => if j = k then some (.slice sa sl sc) else f j) ∧ Fr (fun x => x = m ∨ x = b) w w' := by
  have hne : m ≠ b := h.ne_map hf
  have lk := clook_plain h hf k
  cases hk : (f k).isSome with
  | true =>
    simp only [ans, hk] at lk
    go_enter Yba.func18, Yba.ntmps18
    go_wp2_with fail
    refine lk.mono ?_
    rintro e w1 ⟨rfl, hb⟩
    have hc1 := ccow_below h hb
    have hf1 := hf.congr (hb.block _ hf.lt)
    go_wp2_with fail
    refine (cput_own hc1 hf1 k sa sl sc).mono ?_
    rintro e w2 ⟨rfl, hm2, hfr⟩
    have FIN : Hid (Cow w2 m 88 (some b) none n true false ∧ MapF w2 b (fun j => if j = k then some (.slice sa sl sc) else f j) ∧ Fr (fun x => x = m ∨ x = b) w w2) :=
      ⟨Blk.fr hc1 hfr hne, hm2, (Fr.of_below hb).trans (hfr.mono (fun x _ hx => .inr hx))⟩
    clear hfr hm2
    go_wp2
    first | go_end0 | refine bodyPost_ret (results_none rfl _ _ _) rfl ?_
    exact ⟨rfl, FIN.out⟩
  | false =>
    simp only [ans, hk] at lk
    go_enter Yba.func18, Yba.ntmps18
    go_wp2_with fail
    refine lk.mono ?_
    rintro e w1 ⟨rfl, hb⟩
    have hc1 := ccow_below h hb
    have hf1 := hf.congr (hb.block _ hf.lt)
    have c2 : w1.cell? ⟨m, 2, none⟩ = some (.int .i64 n) := hc1.cell 2
    have f2 : w1.frozen? ⟨m, 2, none⟩ = false := hc1.frozen 2
    go_wp2_with fail
    refine (cput_own (ccow_size hc1 (n + 1)) (hf1.setCell _ _) k sa sl sc).mono ?_
    rintro e w2 ⟨rfl, hm2, hfr⟩
    have FIN : Hid (Cow w2 m 88 (some b) none (n + 1) true false ∧ MapF w2 b (fun j => if j = k then some (.slice sa sl sc) else f j) ∧ Fr (fun x => x = m ∨ x = b) w w2) :=
      ⟨Blk.fr (ccow_size hc1 (n + 1)) hfr hne, hm2, ((Fr.of_below hb).setCell ⟨m, 2, none⟩ _ (fun _ => .inl rfl)).trans (hfr.mono (fun x _ hx => .inr hx))⟩
    clear hfr hm2
    go_wp2
    first | go_end0 | refine bodyPost_ret (results_none rfl _ _ _) rfl ?_
    exact ⟨rfl, FIN.out⟩

/-! ### Get 17, Len 28 -/
theorem cget_of {w : World} {m : Nat} {x : Option Value} (k : ByteArray) (h : Calls Yba.prog 26 #[.pointer (some ⟨m, 0, none⟩), .string k] w fun e w' => e = .returned (ans (.slice none 0 0) x) ∧ Below w.heap.size w w') :
    Calls Yba.prog 17 #[.pointer (some ⟨m, 0, none⟩), .string k] w fun e w' => e = .returned (x.getD (.slice none 0 0)) ∧ Below w.heap.size w w' := by
  have H := h
  clear h
  go_enter Yba.func17, Yba.ntmps17
  go_wp2_with fail
  refine H.mono ?_
  rintro e w1 ⟨rfl, hb⟩
  go_wp2
  go_ret
  exact ⟨rfl, hb⟩

theorem clen {w : World} {m : Nat} {b c : Option Nat} {n : Int} {ob oc : Bool} (h : Cow w m 88 b c n ob oc) :
    Calls Yba.prog 28 #[.pointer (some ⟨m, 0, none⟩)] w fun e w' => e = .returned (.int .i64 n) ∧ w' = w := by
  have c2 : w.cell? ⟨m, 2, none⟩ = some (.int .i64 n) := h.cell 2
  clear h
  go_enter Yba.func28, Yba.ntmps28
  go_wp2
  go_ret
  exact ⟨rfl, rfl⟩

/-! ### Delete 40 -/
set_option maxRecDepth 20000 in
theorem cdel_own {w : World} {m b : Nat} {n : Int} {f : ByteArray → Option Value} (h : Cow w m 88 (some b) none n true false) (hf : MapF w b f) (h0 : 1 ≤ n) (h1 : n ≤ 100000) (k : ByteArray) (hk : (f k).isSome = true) :
    Calls Yba.prog 40 #[.pointer (some ⟨m, 0, none⟩), .string k] w fun e w' => e = .returned (.tuple #[]) ∧ Cow w' m 88 (some b) none (n - 1) true false ∧ MapF w' b (fun j => if j = k then none else f j) ∧ Fr (fun x => x = m ∨ x = b) w w' := by
  have hne : m ≠ b := h.ne_map hf
  have lk := clook_plain h hf k
  simp only [ans, hk] at lk
  go_enter Yba.func40, Yba.ntmps40
  go_wp2_with fail
  refine lk.mono ?_
  rintro e w1 ⟨rfl, hb⟩
  have hc1 := ccow_below h hb
  have hf1 := hf.congr (hb.block _ hf.lt)
  have c2 : w1.cell? ⟨m, 2, none⟩ = some (.int .i64 n) := hc1.cell 2
  have f2 : w1.frozen? ⟨m, 2, none⟩ = false := hc1.frozen 2
  go_wp2_with fail
  refine (cput_gone (ccow_size hc1 (n - 1)) (hf1.setCell _ _) k).mono ?_
  rintro e w2 ⟨rfl, hm2, hfr⟩
  have FIN : Hid (Cow w2 m 88 (some b) none (n - 1) true false ∧ MapF w2 b (fun j => if j = k then none else f j) ∧ Fr (fun x => x = m ∨ x = b) w w2) :=
    ⟨Blk.fr (ccow_size hc1 (n - 1)) hfr hne, hm2, ((Fr.of_below hb).setCell ⟨m, 2, none⟩ _ (fun _ => .inl rfl)).trans (hfr.mono (fun x _ hx => .inr hx))⟩
  clear hfr hm2
  go_wp2
  first | go_end0 | refine bodyPost_ret (results_none rfl _ _ _) rfl ?_
  exact ⟨rfl, FIN.out⟩

set_option maxRecDepth 20000 in
theorem cdel_fork {w : World} {m b : Nat} {n : Int} {f : ByteArray → Option Value} (h : Cow w m 88 (some b) none n false false) (hf : MapF w b f) (h0 : 1 ≤ n) (h1 : n ≤ 100000) (k : ByteArray) (hk : (f k).isSome = true) :
    Calls Yba.prog 40 #[.pointer (some ⟨m, 0, none⟩), .string k] w fun e w' => e = .returned (.tuple #[]) ∧ (∃ c, w.heap.size ≤ c ∧ Cow w' m 88 (some b) (some c) (n - 1) false true ∧ MapF w' c (cone k (.slice none 0 0) true)) ∧ Fr (fun x => x = m) w w' := by
  have lk := clook_plain h hf k
  simp only [ans, hk] at lk
  have hex : ∃ j, (f j).isSome = true := ⟨k, hk⟩
  go_enter Yba.func40, Yba.ntmps40
  go_wp2_with fail
  refine lk.mono ?_
  rintro e w1 ⟨rfl, hb⟩
  have hc1 := ccow_below h hb
  have hf1 := hf.congr (hb.block _ hf.lt)
  have c2 : w1.cell? ⟨m, 2, none⟩ = some (.int .i64 n) := hc1.cell 2
  have f2 : w1.frozen? ⟨m, 2, none⟩ = false := hc1.frozen 2
  go_wp2_with fail
  refine (cput_fork (ccow_size hc1 (n - 1)) (hf1.setCell _ _) hex k none 0 0 true).mono ?_
  rintro e w2 ⟨rfl, ⟨c, q1, q2, q3⟩, hfr⟩
  have hsz := hb.size
  have FIN : Hid ((∃ c, w.heap.size ≤ c ∧ Cow w2 m 88 (some b) (some c) (n - 1) false true ∧ MapF w2 c (cone k (.slice none 0 0) true)) ∧ Fr (fun x => x = m) w w2) :=
    ⟨⟨c, by rw [size_setCell] at q1; omega, q2, q3⟩, ((Fr.of_below (S := fun x => x = m) hb).setCell ⟨m, 2, none⟩ _ (fun _ => rfl)).trans hfr⟩
  clear hfr q1 q2 q3 hsz
  go_wp2
  first | go_end0 | refine bodyPost_ret (results_none rfl _ _ _) rfl ?_
  exact ⟨rfl, FIN.out⟩

set_option maxRecDepth 20000 in
/-- a delete at the one changed key -/
theorem cdel_again {w : World} {m b c : Nat} {n : Int} {f : ByteArray → Option Value} {k : ByteArray} (sa : Option Addr) (sl sc : Nat) (h : Cow w m 88 (some b) (some c) n false true) (hf : MapF w b f) (hc : MapF w c (cone k (.slice sa sl sc) false)) (hbc : b ≠ c) (hsome : ∃ j, (f j).isSome = true) (h0 : 1 ≤ n) (h1 : n ≤ 100000) :
    Calls Yba.prog 40 #[.pointer (some ⟨m, 0, none⟩), .string k] w fun e w' => e = .returned (.tuple #[]) ∧ Cow w' m 88 (some b) (some c) (n - 1) false true ∧ MapF w' c (cone k (.slice none 0 0) true) ∧ Fr (fun x => x = m ∨ x = c) w w' := by
  have hne : m ≠ c := h.ne_map hc
  have lk := clook_at sa sl sc false h hc
  go_enter Yba.func40, Yba.ntmps40
  go_wp2_with fail
  refine lk.mono ?_
  rintro e w1 ⟨rfl, hb⟩
  have hc1 := ccow_below h hb
  have hf1 := hf.congr (hb.block _ hf.lt)
  have hcc1 := hc.congr (hb.block _ hc.lt)
  have c2 : w1.cell? ⟨m, 2, none⟩ = some (.int .i64 n) := hc1.cell 2
  have f2 : w1.frozen? ⟨m, 2, none⟩ = false := hc1.frozen 2
  go_wp2_with fail
  refine (cput_again (ccow_size hc1 (n - 1)) (hf1.setCell _ _) (hcc1.setCell _ _) hbc hsome none 0 0 true).mono ?_
  rintro e w2 ⟨rfl, hm2, hfr⟩
  have FIN : Hid (Cow w2 m 88 (some b) (some c) (n - 1) false true ∧ MapF w2 c (cone k (.slice none 0 0) true) ∧ Fr (fun x => x = m ∨ x = c) w w2) :=
    ⟨Blk.fr (ccow_size hc1 (n - 1)) hfr hne, hm2, ((Fr.of_below hb).setCell ⟨m, 2, none⟩ _ (fun _ => .inl rfl)).trans (hfr.mono (fun x _ hx => .inr hx))⟩
  clear hfr hm2
  go_wp2
  first | go_end0 | refine bodyPost_ret (results_none rfl _ _ _) rfl ?_
  exact ⟨rfl, FIN.out⟩

set_option maxRecDepth 20000 in
/-- a set in a shared Map, at a key that is there -/
theorem cset_fork {w : World} {m b : Nat} {n : Int} {f : ByteArray → Option Value} (h : Cow w m 88 (some b) none n false false) (hf : MapF w b f) (k : ByteArray) (hk : (f k).isSome = true) (sa : Option Addr) (sl sc : Nat) :
    Calls Yba.prog 18 #[.pointer (some ⟨m, 0, none⟩), .string k, .slice sa sl sc] w fun e w' => e = .returned (.tuple #[]) ∧ (∃ c, w.heap.size ≤ c ∧ Cow w' m 88 (some b) (some c) n false true ∧ MapF w' c (cone k (.slice sa sl sc) false)) ∧ Fr (fun x => x = m) w w' := by
  have lk := clook_plain h hf k
  simp only [ans, hk] at lk
  have hex : ∃ j, (f j).isSome = true := ⟨k, hk⟩
  go_enter Yba.func18, Yba.ntmps18
  go_wp2_with fail
  refine lk.mono ?_
  rintro e w1 ⟨rfl, hb⟩
  have hc1 := ccow_below h hb
  have hf1 := hf.congr (hb.block _ hf.lt)
  go_wp2_with fail
  refine (cput_fork hc1 hf1 hex k sa sl sc false).mono ?_
  rintro e w2 ⟨rfl, ⟨c, q1, q2, q3⟩, hfr⟩
  have hsz := hb.size
  have FIN : Hid ((∃ c, w.heap.size ≤ c ∧ Cow w2 m 88 (some b) (some c) n false true ∧ MapF w2 c (cone k (.slice sa sl sc) false)) ∧ Fr (fun x => x = m) w w2) :=
    ⟨⟨c, by omega, q2, q3⟩, (Fr.of_below hb).trans hfr⟩
  clear hfr q1 q2 q3 hsz
  go_wp2
  first | go_end0 | refine bodyPost_ret (results_none rfl _ _ _) rfl ?_
  exact ⟨rfl, FIN.out⟩

set_option maxRecDepth 20000 in
/-- a further set at the one changed key -/
theorem cset_again {w : World} {m b c : Nat} {n : Int} {f : ByteArray → Option Value} {k : ByteArray} (sa0 : Option Addr) (sl0 sc0 : Nat) (sa : Option Addr) (sl sc : Nat) (h : Cow w m 88 (some b) (some c) n false true) (hf : MapF w b f) (hc : MapF w c (cone k (.slice sa0 sl0 sc0) false)) (hbc : b ≠ c) (hsome : ∃ j, (f j).isSome = true) :
    Calls Yba.prog 18 #[.pointer (some ⟨m, 0, none⟩), .string k, .slice sa sl sc] w fun e w' => e = .returned (.tuple #[]) ∧ Cow w' m 88 (some b) (some c) n false true ∧ MapF w' c (cone k (.slice sa sl sc) false) ∧ Fr (fun x => x = m ∨ x = c) w w' := by
  have hne : m ≠ c := h.ne_map hc
  have lk := clook_at sa0 sl0 sc0 false h hc
  go_enter Yba.func18, Yba.ntmps18
  go_wp2_with fail
  refine lk.mono ?_
  rintro e w1 ⟨rfl, hb⟩
  have hc1 := ccow_below h hb
  have hf1 := hf.congr (hb.block _ hf.lt)
  have hcc1 := hc.congr (hb.block _ hc.lt)
  go_wp2_with fail
  refine (cput_again hc1 hf1 hcc1 hbc hsome sa sl sc false).mono ?_
  rintro e w2 ⟨rfl, hm2, hfr⟩
  have FIN : Hid (Cow w2 m 88 (some b) (some c) n false true ∧ MapF w2 c (cone k (.slice sa sl sc) false) ∧ Fr (fun x => x = m ∨ x = c) w w2) :=
    ⟨Blk.fr hc1 hfr hne, hm2, (Fr.of_below hb).trans (hfr.mono (fun x _ hx => .inr hx))⟩
  clear hfr hm2
  go_wp2
  first | go_end0 | refine bodyPost_ret (results_none rfl _ _ _) rfl ?_
  exact ⟨rfl, FIN.out⟩

end Go.Proofs.Ybulkeipw
