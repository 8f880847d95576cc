import Derived.Test.YbulkeipwFr
namespace Go.Proofs.Ybulkeipw
open Go.RowKit
set_option linter.unusedVariables false

theorem zero9 (w : World) : (zeroValue 9).run Yba.prog w = .ok (.string { data := #[] }) w := by kernel_rfl
theorem zero22 (w : World) : (zeroValue 22).run Yba.prog w = .ok (.slice none 0 0) w := by kernel_rfl
theorem zero111 (w : World) : (zeroValue 111).run Yba.prog w = .ok (.agg #[.string { data := #[] }, .bool false]) w := by kernel_rfl
theorem zero114 (w : World) : (zeroValue 114).run Yba.prog w = .ok (.agg #[.slice none 0 0, .bool false]) w := by kernel_rfl

/-- a look-up's two results -/
abbrev ans (z : Value) (x : Option Value) : Value := .tuple #[x.getD z, .bool x.isSome]

/-! ### Lookup 23 -/
/-- a Map that was never written -/
theorem plook_new {w : World} {m : Nat} {n : Int} {ob oc : Bool} (h : Cow w m 93 none none n ob oc) (k : ByteArray) :
    Calls Yba.prog 23 #[.pointer (some ⟨m, 0, none⟩), .string k] w fun e w' => e = .returned (ans (.string { data := #[] }) none) ∧ Below w.heap.size w w' := by
  have c0 : w.cell? ⟨m, 0, none⟩ = some (.map none) := h.cell 0
  have c1 : w.cell? ⟨m, 1, none⟩ = some (.map none) := h.cell 1
  have hl := run_look_nil w Yba.underlying90 zero9 k
  go_enter Yba.func23, Yba.ntmps23
  go_wp2
  go_ret2
  exact ⟨rfl, Below.refl _ _⟩

/-- a Map without changes -/
theorem plook_plain {w : World} {m b : Nat} {n : Int} {ob oc : Bool} {f : ByteArray → Option Value} (h : Cow w m 93 (some b) none n ob oc) (hf : MapF w b f) (k : ByteArray) :
    Calls Yba.prog 23 #[.pointer (some ⟨m, 0, none⟩), .string k] w fun e w' => e = .returned (ans (.string { data := #[] }) (f k)) ∧ Below w.heap.size w w' := by
  have c0 : w.cell? ⟨m, 0, none⟩ = some (.map (some b)) := h.cell 0
  have c1 : w.cell? ⟨m, 1, none⟩ = some (.map none) := h.cell 1
  have hl := run_look (w := w) Yba.underlying90 zero9 hf k
  go_enter Yba.func23, Yba.ntmps23
  go_wp2
  go_ret2
  exact ⟨rfl, Below.refl _ _⟩

/-- what the one change says -/
def pone (kc : ByteArray) (V : Value) (d : Bool) (j : ByteArray) : Option Value := if j = kc then some (.agg #[V, .bool d]) else none

set_option maxRecDepth 20000 in
/-- a Map with one change: at that key -/
theorem plook_at {w : World} {m b c : Nat} {n : Int} {ob oc : Bool} {kc : ByteArray} (sv : ByteArray) (d : Bool) (h : Cow w m 93 (some b) (some c) n ob oc) (hc : MapF w c (pone kc (.string sv) d)) :
    Calls Yba.prog 23 #[.pointer (some ⟨m, 0, none⟩), .string kc] w fun e w' => e = .returned (.tuple #[.string sv, .bool (!d)]) ∧ Below w.heap.size w w' := by
  have c0 : w.cell? ⟨m, 0, none⟩ = some (.map (some b)) := h.cell 0
  have c1 : w.cell? ⟨m, 1, none⟩ = some (.map (some c)) := h.cell 1
  obtain ⟨nn, hlen, h1, _⟩ := run_len (w := w) 3 Yba.underlying91 hc
  have hn1 : 1 ≤ nn := h1 ⟨kc, by simp [pone]⟩
  have hlen' := hlen w rfl
  have hl := run_look (w := w) Yba.underlying91 zero111 hc kc
  rw [show pone kc (.string sv) d kc = some (.agg #[.string sv, .bool d]) by simp [pone]] at hl
  simp only [Option.getD_some, Option.isSome_some] at hl
  have t1 : decide ((0 : Int) < (nn : Int)) = true := by simp; omega
  clear h1 hlen
  go_enter Yba.func23, Yba.ntmps23
  go_wp2
  go_quiet (fail)
  go_wp2
  go_ret2
  exact ⟨rfl, below_drewN ((Below.refl _ _).alloc (Nat.le_refl _) _) _⟩

set_option maxRecDepth 20000 in
/-- a Map with one change: at another key -/
theorem plook_off {w : World} {m b c : Nat} {n : Int} {ob oc : Bool} {kc : ByteArray} {V : Value} {d : Bool} {f : ByteArray → Option Value} (h : Cow w m 93 (some b) (some c) n ob oc) (hf : MapF w b f) (hc : MapF w c (pone kc V d)) (k : ByteArray) (hk : k ≠ kc) :
    Calls Yba.prog 23 #[.pointer (some ⟨m, 0, none⟩), .string k] w fun e w' => e = .returned (ans (.string { data := #[] }) (f k)) ∧ Below w.heap.size w w' := by
  have c0 : ∀ o, (w.alloc o).cell? ⟨m, 0, none⟩ = some (.map (some b)) := fun o => (h.alloc o).cell 0
  have c1 : w.cell? ⟨m, 1, none⟩ = some (.map (some c)) := h.cell 1
  obtain ⟨nn, hlen, h1, _⟩ := run_len (w := w) 3 Yba.underlying91 hc
  have hn1 : 1 ≤ nn := h1 ⟨kc, by simp [pone]⟩
  have hlen' := hlen w rfl
  have hl := run_look (w := w) Yba.underlying91 zero111 hc k
  rw [show pone kc V d k = none by simp [pone, hk]] at hl
  simp only [Option.getD_none, Option.isSome_none] at hl
  have hl2 := fun o => run_look (w := w.alloc o) Yba.underlying90 zero9 (hf.alloc o) k
  have t1 : decide ((0 : Int) < (nn : Int)) = true := by simp; omega
  clear h1 hlen
  go_enter Yba.func23, Yba.ntmps23
  go_wp2
  go_ret2
  exact ⟨rfl, (Below.refl _ _).alloc (Nat.le_refl _) _⟩

/-! ### Lookup 26 -/
/-- a Map that was never written -/
theorem clook_new {w : World} {m : Nat} {n : Int} {ob oc : Bool} (h : Cow w m 88 none none n ob oc) (k : ByteArray) :
    Calls Yba.prog 26 #[.pointer (some ⟨m, 0, none⟩), .string k] w fun e w' => e = .returned (ans (.slice none 0 0) none) ∧ Below w.heap.size w w' := by
  have c0 : w.cell? ⟨m, 0, none⟩ = some (.map none) := h.cell 0
  have c1 : w.cell? ⟨m, 1, none⟩ = some (.map none) := h.cell 1
  have hl := run_look_nil w Yba.underlying85 zero22 k
  go_enter Yba.func26, Yba.ntmps26
  go_wp2
  go_ret2
  exact ⟨rfl, Below.refl _ _⟩

/-- a Map without changes -/
theorem clook_plain {w : World} {m b : Nat} {n : Int} {ob oc : Bool} {f : ByteArray → Option Value} (h : Cow w m 88 (some b) none n ob oc) (hf : MapF w b f) (k : ByteArray) :
    Calls Yba.prog 26 #[.pointer (some ⟨m, 0, none⟩), .string k] w fun e w' => e = .returned (ans (.slice none 0 0) (f k)) ∧ Below w.heap.size w w' := by
  have c0 : w.cell? ⟨m, 0, none⟩ = some (.map (some b)) := h.cell 0
  have c1 : w.cell? ⟨m, 1, none⟩ = some (.map none) := h.cell 1
  have hl := run_look (w := w) Yba.underlying85 zero22 hf k
  go_enter Yba.func26, Yba.ntmps26
  go_wp2
  go_ret2
  exact ⟨rfl, Below.refl _ _⟩

/-- what the one change says -/
def cone (kc : ByteArray) (V : Value) (d : Bool) (j : ByteArray) : Option Value := if j = kc then some (.agg #[V, .bool d]) else none

set_option maxRecDepth 20000 in
/-- a Map with one change: at that key -/
theorem clook_at {w : World} {m b c : Nat} {n : Int} {ob oc : Bool} {kc : ByteArray} (sa : Option Addr) (sl sc : Nat) (d : Bool) (h : Cow w m 88 (some b) (some c) n ob oc) (hc : MapF w c (cone kc (.slice sa sl sc) d)) :
    Calls Yba.prog 26 #[.pointer (some ⟨m, 0, none⟩), .string kc] w fun e w' => e = .returned (.tuple #[.slice sa sl sc, .bool (!d)]) ∧ Below w.heap.size w w' := by
  have c0 : w.cell? ⟨m, 0, none⟩ = some (.map (some b)) := h.cell 0
  have c1 : w.cell? ⟨m, 1, none⟩ = some (.map (some c)) := h.cell 1
  obtain ⟨nn, hlen, h1, _⟩ := run_len (w := w) 3 Yba.underlying86 hc
  have hn1 : 1 ≤ nn := h1 ⟨kc, by simp [cone]⟩
  have hlen' := hlen w rfl
  have hl := run_look (w := w) Yba.underlying86 zero114 hc kc
  rw [show cone kc (.slice sa sl sc) d kc = some (.agg #[.slice sa sl sc, .bool d]) by simp [cone]] at hl
  simp only [Option.getD_some, Option.isSome_some] at hl
  have t1 : decide ((0 : Int) < (nn : Int)) = true := by simp; omega
  clear h1 hlen
  go_enter Yba.func26, Yba.ntmps26
  go_wp2
  go_quiet (fail)
  go_wp2
  go_ret2
  exact ⟨rfl, below_drewN ((Below.refl _ _).alloc (Nat.le_refl _) _) _⟩

set_option maxRecDepth 20000 in
/-- a Map with one change: at another key -/
theorem clook_off {w : World} {m b c : Nat} {n : Int} {ob oc : Bool} {kc : ByteArray} {V : Value} {d : Bool} {f : ByteArray → Option Value} (h : Cow w m 88 (some b) (some c) n ob oc) (hf : MapF w b f) (hc : MapF w c (cone kc V d)) (k : ByteArray) (hk : k ≠ kc) :
    Calls Yba.prog 26 #[.pointer (some ⟨m, 0, none⟩), .string k] w fun e w' => e = .returned (ans (.slice none 0 0) (f k)) ∧ Below w.heap.size w w' := by
  have c0 : ∀ o, (w.alloc o).cell? ⟨m, 0, none⟩ = some (.map (some b)) := fun o => (h.alloc o).cell 0
  have c1 : w.cell? ⟨m, 1, none⟩ = some (.map (some c)) := h.cell 1
  obtain ⟨nn, hlen, h1, _⟩ := run_len (w := w) 3 Yba.underlying86 hc
  have hn1 : 1 ≤ nn := h1 ⟨kc, by simp [cone]⟩
  have hlen' := hlen w rfl
  have hl := run_look (w := w) Yba.underlying86 zero114 hc k
  rw [show cone kc V d k = none by simp [cone, hk]] at hl
  simp only [Option.getD_none, Option.isSome_none] at hl
  have hl2 := fun o => run_look (w := w.alloc o) Yba.underlying85 zero22 (hf.alloc o) k
  have t1 : decide ((0 : Int) < (nn : Int)) = true := by simp; omega
  clear h1 hlen
  go_enter Yba.func26, Yba.ntmps26
  go_wp2
  go_ret2
  exact ⟨rfl, (Below.refl _ _).alloc (Nat.le_refl _) _⟩

end Go.Proofs.Ybulkeipw
