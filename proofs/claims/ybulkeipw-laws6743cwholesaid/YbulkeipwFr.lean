import Derived.Test.YbulkeipwMapRuns
namespace Go.Proofs.Ybulkeipw
open Go.RowKit
set_option linter.unusedVariables false

/-! ### THE FRAME: of what was there, the blocks outside S are as they were -/
structure Fr (S : Nat → Prop) (w w' : World) : Prop where
  os : w'.os = w.os
  tape : w'.tape = w.tape
  output : w'.output = w.output
  size : w.heap.size ≤ w'.heap.size
  block : ∀ k, k < w.heap.size → ¬ S k → w'.heap[k]? = w.heap[k]?

theorem Fr.refl (S : Nat → Prop) (w : World) : Fr S w w := ⟨rfl, rfl, rfl, Nat.le_refl _, fun _ _ _ => rfl⟩
theorem Fr.trans {S : Nat → Prop} {a b c : World} (h : Fr S a b) (k : Fr S b c) : Fr S a c :=
  ⟨k.os.trans h.os, k.tape.trans h.tape, k.output.trans h.output, Nat.le_trans h.size k.size, fun i hi hs => (k.block i (Nat.lt_of_lt_of_le hi h.size) hs).trans (h.block i hi hs)⟩
theorem Fr.mono {S S' : Nat → Prop} {a b : World} (h : Fr S a b) (hs : ∀ k, k < a.heap.size → S k → S' k) : Fr S' a b := ⟨h.os, h.tape, h.output, h.size, fun k hk hn => h.block k hk (fun e => hn (hs k hk e))⟩
theorem Fr.alloc {S : Nat → Prop} {a w : World} (h : Fr S a w) (o : Obj) : Fr S a (w.alloc o) := h.trans ⟨rfl, rfl, rfl, by simp, fun k hk _ => Below.heap_alloc _ _ _ hk⟩
theorem Fr.drew {S : Nat → Prop} {a w : World} (h : Fr S a w) : Fr S a w.drew := ⟨h.os, h.tape, h.output, h.size, h.block⟩
theorem Fr.drewN {S : Nat → Prop} {a w : World} (h : Fr S a w) (n : Nat) : Fr S a (w.drewN n) := ⟨h.os, h.tape, h.output, h.size, h.block⟩
theorem Fr.setCell {S : Nat → Prop} {a w : World} (h : Fr S a w) (p : Addr) (u : Value) (hp : p.block < a.heap.size → S p.block) : Fr S a (w.setCell p u) :=
  ⟨h.os, h.tape, h.output, by simpa [World.setCell] using h.size, fun k hk hs => by
    rw [Below.heap_setCell _ _ _ _ (fun e => hs (by rw [e]; exact hp (by rw [← e]; exact hk)))]; exact h.block k hk hs⟩
theorem heap_setMap_ne (w : World) (b : Nat) (o : Obj) (k : Nat) (h : k ≠ b) : (setMap w b o).heap[k]? = w.heap[k]? := by
  simp only [setMap, Array.getElem?_setIfInBounds]
  rw [if_neg (fun e => h e.symm)]
theorem size_setMap (w : World) (b : Nat) (o : Obj) : (setMap w b o).heap.size = w.heap.size := by simp [setMap]
theorem Fr.setMap {S : Nat → Prop} {a w : World} (h : Fr S a w) (b : Nat) (o : Obj) (hp : b < a.heap.size → S b) : Fr S a (setMap w b o) :=
  ⟨h.os, h.tape, h.output, by rw [size_setMap]; exact h.size, fun k hk hs => by
    rw [heap_setMap_ne _ _ _ _ (fun e => hs (by rw [e]; exact hp (by rw [← e]; exact hk)))]; exact h.block k hk hs⟩
theorem Fr.below {S : Nat → Prop} {w w' : World} (h : Fr S w w') {B : Nat} (hB : B ≤ w.heap.size) (hS : ∀ k, k < B → ¬ S k) : Below B w w' := ⟨h.os, h.tape, h.output, h.size, fun k hk => h.block k (Nat.lt_of_lt_of_le hk hB) (hS k hk)⟩
theorem Fr.of_below {S : Nat → Prop} {w w' : World} (h : Below w.heap.size w w') : Fr S w w' := ⟨h.os, h.tape, h.output, h.size, fun k hk _ => h.block k hk⟩

/-! ### A BLOCK OF CELLS -/
def Blk (w : World) (b : Nat) (cs : Array Value) (T : TypeId) : Prop := w.heap[b]? = some (.cells cs T (0, 0))
theorem Blk.cell {w : World} {b : Nat} {cs : Array Value} {T : TypeId} (h : Blk w b cs T) (i : Nat) : w.cell? ⟨b, i, none⟩ = cs[i]? := by unfold Blk at h; simp [World.cell?, h]
theorem Blk.frozen {w : World} {b : Nat} {cs : Array Value} {T : TypeId} (h : Blk w b cs T) (i : Nat) : w.frozen? ⟨b, i, none⟩ = false := by unfold Blk at h; simp [World.frozen?, h]
theorem Blk.lt {w : World} {b : Nat} {cs : Array Value} {T : TypeId} (h : Blk w b cs T) : b < w.heap.size := lt_of_block h
theorem Blk.congr {w w' : World} {b : Nat} {cs : Array Value} {T : TypeId} (h : Blk w b cs T) (e : w'.heap[b]? = w.heap[b]?) : Blk w' b cs T := e.trans h
theorem Blk.setCell {w : World} {b : Nat} {cs : Array Value} {T : TypeId} (h : Blk w b cs T) (i : Nat) (v : Value) : Blk (w.setCell ⟨b, i, none⟩ v) b (cs.setIfInBounds i v) T := by
  unfold Blk at h ⊢
  simp [World.setCell, Array.getElem?_modify, h]
theorem Blk.setCell_ne {w : World} {b : Nat} {cs : Array Value} {T : TypeId} (h : Blk w b cs T) (p : Addr) (v : Value) (hne : b ≠ p.block) : Blk (w.setCell p v) b cs T := h.congr (Below.heap_setCell _ _ _ _ hne)
theorem Blk.alloc {w : World} {b : Nat} {cs : Array Value} {T : TypeId} (h : Blk w b cs T) (o : Obj) : Blk (w.alloc o) b cs T := h.congr (Below.heap_alloc _ _ _ h.lt)
theorem Blk.setMap {w : World} {b : Nat} {cs : Array Value} {T : TypeId} (h : Blk w b cs T) (m : Nat) (o : Obj) (hne : b ≠ m) : Blk (setMap w m o) b cs T := h.congr (heap_setMap_ne _ _ _ _ hne)
theorem blk_new (w : World) (cs : Array Value) (T : TypeId) : Blk (w.alloc (.cells cs T)) w.heap.size cs T := heap_alloc_new w _
theorem MapF.alloc {w : World} {b : Nat} {f : ByteArray → Option Value} (h : MapF w b f) (o : Obj) : MapF (w.alloc o) b f := h.congr (Below.heap_alloc _ _ _ h.lt)
theorem MapF.setCell {w : World} {b : Nat} {f : ByteArray → Option Value} (h : MapF w b f) (p : Addr) (v : Value) : MapF (w.setCell p v) b f := by
  obtain ⟨es, c, L, h1, h2⟩ := h
  refine ⟨es, c, L, ?_, h2⟩
  by_cases e : b = p.block
  · subst e; simp [World.setCell, Array.getElem?_modify, h1]
  · rw [Below.heap_setCell _ _ _ _ e]; exact h1
/-- a map is no row of cells -/
theorem Blk.ne_map {w : World} {b m : Nat} {cs : Array Value} {T : TypeId} {f : ByteArray → Option Value} (h : Blk w b cs T) (hm : MapF w m f) : b ≠ m := by
  obtain ⟨es, c, L, h1, _⟩ := hm
  intro e
  subst e
  unfold Blk at h
  rw [h] at h1
  cases h1
theorem Blk.ne {w : World} {b b' : Nat} {cs cs' : Array Value} {T T' : TypeId} (h : Blk w b cs T) (h' : Blk w b' cs' T') (hT : T ≠ T') : b ≠ b' := by
  intro e
  subst e
  unfold Blk at h h'
  rw [h] at h'
  simp at h'
  exact hT h'.2
theorem Blk.fr {w w' : World} {b : Nat} {cs : Array Value} {T : TypeId} {S : Nat → Prop} (h : Blk w b cs T) (hf : Fr S w w') (hs : ¬ S b) : Blk w' b cs T := h.congr (hf.block b h.lt hs)
theorem MapF.fr {w w' : World} {b : Nat} {f : ByteArray → Option Value} {S : Nat → Prop} (h : MapF w b f) (hf : Fr S w w') (hs : ¬ S b) : MapF w' b f := h.congr (hf.block b h.lt hs)

/-! ### A cowmap.Map: its five cells -/
def Cow (w : World) (m : Nat) (T : TypeId) (b c : Option Nat) (n : Int) (ob oc : Bool) : Prop := Blk w m #[.map b, .map c, .int .i64 n, .bool ob, .bool oc] T
end Go.Proofs.Ybulkeipw
