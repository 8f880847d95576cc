import Derived.Test.YbulkeiusMake
namespace Go.Proofs.Ybulkeius
open Go.RowKit
set_option linter.unusedVariables false

/-- where pair j's list lies -/
def ptrOf (P : List (Option Nat)) (j : Nat) : Option Addr := match P[j]? with
  | some (some L) => some ⟨L, 0, none⟩
  | _ => none

structure Lists (w : World) (B n : Nat) (z : List Int) (P : List (Option Nat)) (wr : World) : Prop where
  size : B + 2 ≤ wr.heap.size
  pc : ∀ j, j < n → ∀ i, i < 7 → wr.cell? ⟨B, j * 7 + i, none⟩ = some (if i = 3 then .pointer (ptrOf P j) else pair0.getD i undef)
  pf : ∀ o, wr.frozen? ⟨B, o, none⟩ = false
  lc : ∀ j, j < n → wr.cell? ⟨B + 1, j, none⟩ = some (.pointer (ptrOf P j))
  lf : ∀ o, wr.frozen? ⟨B + 1, o, none⟩ = false
  items : ∀ j L, P[j]? = some (some L) → B + 2 ≤ L ∧ L < wr.heap.size ∧ ∃ a c, wr.cell? ⟨L, 1, none⟩ = some (.slice a (z.getD j 0).toNat c)
  below : Below B w wr

/-- what the round's two stores ask of the world as it then stands -/
theorem Lists.later {w : World} {B n : Nat} {z : List Int} {P : List (Option Nat)} {wr : World} (h : Lists w B n z P wr) {k : Nat} (hk : k < n) :
    (∀ o1 o2, ((wr.alloc o1).alloc o2).cell? ⟨B + 1, k, none⟩ = some (.pointer (ptrOf P k))) ∧ (∀ o1 o2, ((wr.alloc o1).alloc o2).frozen? ⟨B + 1, k, none⟩ = false) ∧
    (∀ o1 o2 u, (((wr.alloc o1).alloc o2).setCell ⟨B + 1, k, none⟩ u).cell? ⟨B, k * 7, none⟩ = some (.int .i64 0)) ∧
    (∀ o1 o2 u, (((wr.alloc o1).alloc o2).setCell ⟨B + 1, k, none⟩ u).cell? ⟨B, k * 7 + 1, none⟩ = some (.int .i64 0)) ∧
    (∀ o1 o2 u, (((wr.alloc o1).alloc o2).setCell ⟨B + 1, k, none⟩ u).cell? ⟨B, k * 7 + 2, none⟩ = some (.string { data := #[] })) ∧
    (∀ o1 o2 u, (((wr.alloc o1).alloc o2).setCell ⟨B + 1, k, none⟩ u).cell? ⟨B, k * 7 + 3, none⟩ = some (.pointer (ptrOf P k))) ∧
    (∀ o1 o2 u, (((wr.alloc o1).alloc o2).setCell ⟨B + 1, k, none⟩ u).cell? ⟨B, k * 7 + 4, none⟩ = some (.bool false)) ∧
    (∀ o1 o2 u, (((wr.alloc o1).alloc o2).setCell ⟨B + 1, k, none⟩ u).cell? ⟨B, k * 7 + 5, none⟩ = some (.int .i64 0)) ∧
    (∀ o1 o2 u, (((wr.alloc o1).alloc o2).setCell ⟨B + 1, k, none⟩ u).cell? ⟨B, k * 7 + 6, none⟩ = some (.int .i64 0)) ∧
    (∀ o1 o2 u o, (((wr.alloc o1).alloc o2).setCell ⟨B + 1, k, none⟩ u).frozen? ⟨B, o, none⟩ = false) := by
  have hsz := h.size
  have past : ∀ o1 o2 b o, b < B + 2 → ((wr.alloc o1).alloc o2).cell? ⟨b, o, none⟩ = wr.cell? ⟨b, o, none⟩ := fun o1 o2 b o hb => by
    rw [World.cell?_alloc_lt _ _ _ (by simp; omega), World.cell?_alloc_lt _ _ _ (by simp; omega)]
  have pastf : ∀ o1 o2 b o, b < B + 2 → ((wr.alloc o1).alloc o2).frozen? ⟨b, o, none⟩ = wr.frozen? ⟨b, o, none⟩ := fun o1 o2 b o hb => by
    rw [World.frozen?_alloc_old _ _ _ (by simp; omega), World.frozen?_alloc_old _ _ _ (by simp; omega)]
  have pc : ∀ o1 o2 u i, i < 7 → (((wr.alloc o1).alloc o2).setCell ⟨B + 1, k, none⟩ u).cell? ⟨B, k * 7 + i, none⟩ = some (if i = 3 then .pointer (ptrOf P k) else pair0.getD i undef) := fun o1 o2 u i hi => by
    rw [World.cell?_setCell_other _ _ _ _ (fun e => by have := congrArg Addr.block e; simp at this), past _ _ _ _ (by omega)]
    exact h.pc k hk i hi
  refine ⟨fun o1 o2 => ?_, fun o1 o2 => ?_, fun o1 o2 u => pc o1 o2 u 0 (by omega), fun o1 o2 u => pc o1 o2 u 1 (by omega), fun o1 o2 u => pc o1 o2 u 2 (by omega), fun o1 o2 u => pc o1 o2 u 3 (by omega), fun o1 o2 u => pc o1 o2 u 4 (by omega),
    fun o1 o2 u => pc o1 o2 u 5 (by omega), fun o1 o2 u => pc o1 o2 u 6 (by omega), fun o1 o2 u o => ?_⟩
  · rw [past _ _ _ _ (by omega)]; exact h.lc k hk
  · rw [pastf _ _ _ _ (by omega)]; exact h.lf k
  · rw [World.frozen?_setCell, pastf _ _ _ _ (by omega)]; exact h.pf o

/-- the seven cells of 'Pair{List: l}' -/
def pairCells (L : Addr) : List Value := [.int .i64 0, .int .i64 0, .string { data := #[] }, .pointer (some L), .bool false, .int .i64 0, .int .i64 0]

theorem pairCells_get (L : Addr) (i : Nat) (hi : i < 7) : (pairCells L)[i]? = some (if i = 3 then .pointer (some L) else pair0.getD i undef) := by
  match i, hi with
  | 0, _ => rfl
  | 1, _ => rfl
  | 2, _ => rfl
  | 3, _ => rfl
  | 4, _ => rfl
  | 5, _ => rfl
  | 6, _ => rfl

theorem size_setCells (b : Nat) : ∀ (vs : List Value) (o : Nat) (w : World), (w.setCells b o vs).heap.size = w.heap.size
  | [], _, _ => rfl
  | v :: r, o, w => by rw [World.setCells, size_setCells b r]; simp [World.setCell]

theorem below_setCells {B : Nat} {a : World} {b : Nat} (hb : B ≤ b) : ∀ (vs : List Value) (o : Nat) (w : World), Below B a w → Below B a (w.setCells b o vs)
  | [], _, _, h => h
  | v :: r, o, w, h => by rw [World.setCells]; exact below_setCells hb r (o + 1) _ (h.setCell (p := ⟨b, o, none⟩) hb v)

theorem ptrOf_lt (P : List (Option Nat)) (x : Option Nat) (j : Nat) (h : j < P.length) : ptrOf (P ++ [x]) j = ptrOf P j := by
  simp [ptrOf, List.getElem?_append_left h]
theorem ptrOf_eq (P : List (Option Nat)) (x : Option Nat) : ptrOf (P ++ [x]) P.length = x.map (fun L => ⟨L, 0, none⟩) := by
  cases x <;> simp [ptrOf]
theorem ptrOf_ge (P : List (Option Nat)) (j : Nat) (h : P.length ≤ j) : ptrOf P j = none := by
  simp [ptrOf, List.getElem?_eq_none h]

theorem madeCells_get (z : Array Value) (n j : Nat) (hj : j < n) (hz : 0 < z.size) : (madeCells z n)[j]? = z[j % z.size]? := by
  have h1 : j % z.size < z.size := Nat.mod_lt _ hz
  simp [madeCells, hj, h1]

/-- the two slices as 'make' lays them -/
theorem lists_start (w : World) (n : Nat) (z : List Int) : Lists w w.heap.size n z [] ((w.alloc (.cells (madeCells pair0 (n * 7)) 35)).alloc (.cells (madeCells #[.pointer none] n) 27)) := by
  have hs1 : (w.alloc (.cells (madeCells pair0 (n * 7)) 35)).heap.size = w.heap.size + 1 := by simp
  refine ⟨by simp, fun j hj i hi => ?_, fun o => ?_, fun j hj => ?_, fun o => ?_, fun j L h => by simp at h, ((Below.refl _ _).alloc (Nat.le_refl _) _).alloc (by simp) _⟩
  · rw [World.cell?_alloc_lt _ _ _ (by simp), World.cell?_alloc_at _ _ _ _ rfl, madeCells_get _ _ _ (by omega) (by decide), show pair0.size = 7 from rfl, show (j * 7 + i) % 7 = i by omega]
    match i, hi with
    | 0, _ => rfl
    | 1, _ => rfl
    | 2, _ => rfl
    | 3, _ => simp [ptrOf]; rfl
    | 4, _ => rfl
    | 5, _ => rfl
    | 6, _ => rfl
  · rw [World.frozen?_alloc_old _ _ _ (by simp), World.frozen?_alloc_at _ _ _ _ rfl]
  · rw [World.cell?_alloc_at _ _ _ _ hs1.symm, madeCells_get _ _ _ hj (by decide)]
    simp [ptrOf, Nat.mod_one]
  · exact World.frozen?_alloc_at _ _ _ _ hs1.symm

theorem Lists.alloc {w : World} {B n : Nat} {z : List Int} {P : List (Option Nat)} {wr : World} (h : Lists w B n z P wr) (o : Obj) : Lists w B n z P (wr.alloc o) := by
  have hsz := h.size
  refine ⟨by simp; omega, fun j hj i hi => ?_, fun x => ?_, fun j hj => ?_, fun x => ?_, fun j L hL => ?_, h.below.alloc (by omega) _⟩
  · rw [World.cell?_alloc_lt _ _ _ (by show B < _; omega)]; exact h.pc j hj i hi
  · rw [World.frozen?_alloc_old _ _ _ (by simp; omega)]; exact h.pf x
  · rw [World.cell?_alloc_lt _ _ _ (by show B + 1 < _; omega)]; exact h.lc j hj
  · rw [World.frozen?_alloc_old _ _ _ (by simp; omega)]; exact h.lf x
  · obtain ⟨h1, h2, a, c, h3⟩ := h.items j L hL
    exact ⟨h1, by simp; omega, a, c, by rw [World.cell?_alloc_lt _ _ _ (by show L < _; omega)]; exact h3⟩

/-- a round that lays no list -/
theorem Lists.skip {w : World} {B n : Nat} {z : List Int} {P : List (Option Nat)} {wr : World} (h : Lists w B n z P wr) : Lists w B n z (P ++ [none]) wr := by
  have e : ∀ j, ptrOf (P ++ [none]) j = ptrOf P j := fun j => by
    rcases Nat.lt_trichotomy j P.length with hj | hj | hj
    · exact ptrOf_lt _ _ _ hj
    · subst hj; rw [ptrOf_eq, ptrOf_ge _ _ (Nat.le_refl _)]; rfl
    · rw [ptrOf_ge _ _ (by simp; omega), ptrOf_ge _ _ (by omega)]
  refine ⟨h.size, fun j hj i hi => by rw [e]; exact h.pc j hj i hi, h.pf, fun j hj => by rw [e]; exact h.lc j hj, h.lf, fun j L hL => ?_, h.below⟩
  rcases Nat.lt_trichotomy j P.length with hj | hj | hj
  · rw [List.getElem?_append_left hj] at hL; exact h.items j L hL
  · subst hj; simp at hL
  · rw [List.getElem?_eq_none (by simp; omega)] at hL; cases hL

/-- a round that lays a list -/
theorem Lists.step {w : World} {B n : Nat} {z : List Int} {P : List (Option Nat)} {wr : World} (h : Lists w B n z P wr) (hk : P.length < n) {s : Nat} (hs : z.getD P.length 0 = s) (o1 : Obj) (nm mp : Value) (a : Option Addr) (c : Nat) :
    Lists w B n z (P ++ [some (wr.heap.size + 1)]) ((((wr.alloc o1).alloc (.cells #[nm, .slice a s c, mp] 31)).setCell ⟨B + 1, P.length, none⟩ (.pointer (some ⟨wr.heap.size + 1, 0, none⟩))).setCells B (P.length * 7) (pairCells ⟨wr.heap.size + 1, 0, none⟩)) := by
  have hsz := h.size
  obtain ⟨l0, lf0, c0, c1, c2, c3, c4, c5, c6, pf⟩ := h.later hk
  have hL : ((wr.alloc o1).alloc (.cells #[nm, .slice a s c, mp] 31)).heap.size = wr.heap.size + 2 := by simp
  have pB : ∀ o, ((wr.alloc o1).alloc (.cells #[nm, .slice a s c, mp] 31)).cell? ⟨B, o, none⟩ = wr.cell? ⟨B, o, none⟩ := fun o => by
    rw [World.cell?_alloc_lt _ _ _ (by simp; omega), World.cell?_alloc_lt _ _ _ (by simp; omega)]
  have pB1 : ∀ o, ((wr.alloc o1).alloc (.cells #[nm, .slice a s c, mp] 31)).cell? ⟨B + 1, o, none⟩ = wr.cell? ⟨B + 1, o, none⟩ := fun o => by
    rw [World.cell?_alloc_lt _ _ _ (by simp; omega), World.cell?_alloc_lt _ _ _ (by simp; omega)]
  refine ⟨?_, fun j hj i hi => ?_, fun o => ?_, fun j hj => ?_, fun o => ?_, fun j L hjL => ?_, ?_⟩
  · rw [size_setCells]; simp [World.setCell]; omega
  · by_cases e : j = P.length
    · subst e
      have hin := World.cell?_setCells_in B (pairCells ⟨wr.heap.size + 1, 0, none⟩) (P.length * 7) (((wr.alloc o1).alloc (.cells #[nm, .slice a s c, mp] 31)).setCell ⟨B + 1, P.length, none⟩ (.pointer (some ⟨wr.heap.size + 1, 0, none⟩))) (fun i hi => by
        rw [World.cell?_setCell_other _ _ _ _ (fun e => by have := congrArg Addr.block e; simp at this), pB, h.pc _ hk i (by simpa [pairCells] using hi)]; rfl) i (by simpa [pairCells] using hi)
      rw [hin, ← List.getElem?_eq_getElem, pairCells_get _ _ hi, ptrOf_eq]
      rfl
    · rw [World.cell?_setCells_out _ _ _ _ _ (fun _ _ => by simp [pairCells]; omega), World.cell?_setCell_other _ _ _ _ (fun e => by have := congrArg Addr.block e; simp at this), pB, h.pc j hj i hi]
      congr 2
      by_cases hj2 : j < P.length
      · rw [ptrOf_lt _ _ _ hj2]
      · rw [ptrOf_ge P _ (by omega), ptrOf_ge _ _ (by simp; omega)]
  · rw [World.frozen?_setCells]; exact pf _ _ _ _
  · rw [World.cell?_setCells_out _ _ _ _ _ (fun hb _ => by simp at hb)]
    by_cases e : j = P.length
    · subst e
      rw [World.cell?_setCell_same _ _ _ (l0 _ _), ptrOf_eq]; rfl
    · rw [World.cell?_setCell_other _ _ _ _ (fun h' => e (by have := congrArg Addr.off h'; simpa using this.symm)), pB1, h.lc j hj]
      congr 2
      by_cases hj2 : j < P.length
      · rw [ptrOf_lt _ _ _ hj2]
      · rw [ptrOf_ge P _ (by omega), ptrOf_ge _ _ (by simp; omega)]
  · rw [World.frozen?_setCells, World.frozen?_setCell, World.frozen?_alloc_old _ _ _ (by simp; omega), World.frozen?_alloc_old _ _ _ (by simp; omega)]; exact h.lf o
  · rw [size_setCells]
    rcases Nat.lt_trichotomy j P.length with hj | hj | hj
    · rw [List.getElem?_append_left hj] at hjL
      obtain ⟨i1, i2, a', c', i3⟩ := h.items j L hjL
      refine ⟨i1, by simp [World.setCell]; omega, a', c', ?_⟩
      rw [World.cell?_setCells_out _ _ _ _ _ (fun hb _ => by simp at hb; omega), World.cell?_setCell_other _ _ _ _ (fun e => by have := congrArg Addr.block e; simp at this; omega),
        World.cell?_alloc_lt _ _ _ (by simp; omega), World.cell?_alloc_lt _ _ _ (by simp; omega)]
      exact i3
    · subst hj
      simp at hjL
      subst hjL
      refine ⟨by omega, by simp [World.setCell], a, c, ?_⟩
      rw [World.cell?_setCells_out _ _ _ _ _ (fun hb _ => by simp at hb; omega), World.cell?_setCell_other _ _ _ _ (fun e => by have := congrArg Addr.block e; simp at this; omega), World.cell?_alloc_at _ _ _ _ (by simp), hs]
      simp
    · rw [List.getElem?_eq_none (by simp; omega)] at hjL; cases hjL
  · refine below_setCells (Nat.le_refl _) _ _ _ ?_
    exact ((h.below.alloc (by omega) _).alloc (by simp; omega) _).setCell (p := ⟨B + 1, P.length, none⟩) (by show B ≤ B + 1; omega) _
end Go.Proofs.Ybulkeius
