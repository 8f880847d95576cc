import Derived.Test.YbulkeisoDoorWalkA
namespace Go.Proofs.YbulkeisoDoor
open Go.RowKit
set_option linter.unusedVariables false

theorem Tab.below {w w' : World} (h : Tab w) (hb : Below w.heap.size w w') : Tab w' :=
  ⟨by rw [hb.cell (p := ⟨0, 0, none⟩) h.lt]; exact h.n0, by rw [hb.cell (p := ⟨0, 1, none⟩) h.lt]; exact h.f0, by rw [hb.cell (p := ⟨0, 2, none⟩) h.lt]; exact h.n1, by rw [hb.cell (p := ⟨0, 3, none⟩) h.lt]; exact h.f1, Nat.lt_of_lt_of_le h.lt hb.size⟩

/-- What the last statement's loads and calls lean on. -/
abbrev Held (w : World) (o d hl cls num : Int) (con : Bool) (len : Int) (w' : World) : Prop :=
  w'.cell? ⟨w.heap.size, 0, none⟩ = some (.int .i64 o) ∧ w'.cell? ⟨w.heap.size, 1, none⟩ = some (.int .i64 d) ∧ w'.cell? ⟨w.heap.size, 2, none⟩ = some (.int .i64 hl) ∧ w'.cell? ⟨w.heap.size, 3, none⟩ = some (.int .u8 cls) ∧ w'.cell? ⟨w.heap.size, 4, none⟩ = some (.int .u32 num) ∧ w'.cell? ⟨w.heap.size, 5, none⟩ = some (.bool con) ∧ w'.cell? ⟨w.heap.size, 6, none⟩ = some (.int .i64 len) ∧ Tab w' ∧ Below w.heap.size w w' ∧ w.heap.size < w'.heap.size

theorem held_start (w : World) (h : Tab w) (o d hl cls num : Int) (con : Bool) (len : Int) : Held w o d hl cls num con len (w.alloc (.cells #[.int .i64 o, .int .i64 d, .int .i64 hl, .int .u8 cls, .int .u32 num, .bool con, .int .i64 len] 27)).drew := by
  have hb : Below w.heap.size w (w.alloc (.cells #[.int .i64 o, .int .i64 d, .int .i64 hl, .int .u8 cls, .int .u32 num, .bool con, .int .i64 len] 27)).drew := ((Below.refl _ _).alloc (Nat.le_refl _) _).drew
  refine ⟨?_, ?_, ?_, ?_, ?_, ?_, ?_, h.below hb, hb, by simp⟩ <;> (rw [World.cell?_drew, World.cell?_alloc_at _ _ _ _ rfl]; rfl)

theorem held_next {w w1 w2 : World} {o d hl cls num : Int} {con : Bool} {len : Int} (h : Held w o d hl cls num con len w1) (hb : Below w1.heap.size w1 w2) : Held w o d hl cls num con len w2 := by
  obtain ⟨h0, h1, h2, h3, h4, h5, h6, ht, hw, hs⟩ := h
  refine ⟨?_, ?_, ?_, ?_, ?_, ?_, ?_, ht.below hb, hw.trans (hb.mono (Nat.le_of_lt hs)), Nat.lt_of_lt_of_le hs hb.size⟩
  · rw [hb.cell (p := ⟨w.heap.size, 0, none⟩) hs]; exact h0
  · rw [hb.cell (p := ⟨w.heap.size, 1, none⟩) hs]; exact h1
  · rw [hb.cell (p := ⟨w.heap.size, 2, none⟩) hs]; exact h2
  · rw [hb.cell (p := ⟨w.heap.size, 3, none⟩) hs]; exact h3
  · rw [hb.cell (p := ⟨w.heap.size, 4, none⟩) hs]; exact h4
  · rw [hb.cell (p := ⟨w.heap.size, 5, none⟩) hs]; exact h5
  · rw [hb.cell (p := ⟨w.heap.size, 6, none⟩) hs]; exact h6

theorem held_tab {w w1 : World} {o d hl cls num : Int} {con : Bool} {len : Int} (h : Held w o d hl cls num con len w1) : Tab w1 := h.2.2.2.2.2.2.2.1

set_option maxHeartbeats 1000000 in
theorem law_other (cls num : Int) (con : Bool) (len o d hl : Int) (hc : ¬ cls = 0) (w : World) (tab : Tab w) :
    Calls Ybad.prog 3 #[.int .u8 cls, .int .u32 num, .bool con, .int .i64 len, .int .i64 o, .int .i64 d, .int .i64 hl] w fun e w' => e = .returned (.bool true) ∧ Below w.heap.size w w' := by
  obtain ⟨S, h4, h5⟩ := both o d hl cls num con len (fun h => absurd h hc)
  have c0 : (cls == 0) = false := by simp [hc]
  go_enter Ybad.func3, Ybad.ntmps3
  go_wp2
  go_region_held3 (fun w' => w'.cell? ⟨w.heap.size, 0, none⟩ = some (.int .i64 o) ∧ w'.cell? ⟨w.heap.size, 1, none⟩ = some (.int .i64 d) ∧ w'.cell? ⟨w.heap.size, 2, none⟩ = some (.int .i64 hl) ∧ w'.cell? ⟨w.heap.size, 3, none⟩ = some (.int .u8 cls) ∧ w'.cell? ⟨w.heap.size, 4, none⟩ = some (.int .u32 num) ∧ w'.cell? ⟨w.heap.size, 5, none⟩ = some (.bool con) ∧ w'.cell? ⟨w.heap.size, 6, none⟩ = some (.int .i64 len) ∧ Tab w' ∧ Below w.heap.size w w' ∧ w.heap.size < w'.heap.size)
    (first | exact held_start w tab o d hl cls num con len | exact held_next (by assumption) (by assumption))
    (first | (go_at_call 4; refine (h4 _ (by first | assumption | exact held_tab (w := w) (o := o) (d := d) (hl := hl) (cls := cls) (num := num) (con := con) (len := len) (by assumption))).mono ?_; rintro e w' ⟨rfl, hb⟩) | (go_at_call 5; refine (h5 _ (by first | assumption | exact held_tab (w := w) (o := o) (d := d) (hl := hl) (cls := cls) (num := num) (con := con) (len := len) (by assumption))).mono ?_; rintro e w' ⟨rfl, hb⟩))
  have fin : ∀ {w1 : World}, Held w o d hl cls num con len w1 → Below w.heap.size w w1 := fun h => h.2.2.2.2.2.2.2.2.1
  go_wp2
  go_ret
  exact ⟨rfl, fin (by assumption)⟩

set_option maxHeartbeats 1000000 in
theorem law_univ (num m : Int) (hn : 0 ≤ num) (hm : num % 2 = m) (con : Bool) (len o d hl : Int) (w : World) (tab : Tab w) :
    Calls Ybad.prog 3 #[.int .u8 0, .int .u32 num, .bool con, .int .i64 len, .int .i64 o, .int .i64 d, .int .i64 hl] w fun e w' => e = .returned (.bool true) ∧ Below w.heap.size w w' := by
  obtain ⟨S, h4, h5⟩ := both o d hl 0 m con len (fun _ => by omega)
  go_enter Ybad.func3, Ybad.ntmps3
  go_wp2
  simp only [hm]
  clear hm
  go_region_held3 (fun w' => w'.cell? ⟨w.heap.size, 0, none⟩ = some (.int .i64 o) ∧ w'.cell? ⟨w.heap.size, 1, none⟩ = some (.int .i64 d) ∧ w'.cell? ⟨w.heap.size, 2, none⟩ = some (.int .i64 hl) ∧ w'.cell? ⟨w.heap.size, 3, none⟩ = some (.int .u8 0) ∧ w'.cell? ⟨w.heap.size, 4, none⟩ = some (.int .u32 m) ∧ w'.cell? ⟨w.heap.size, 5, none⟩ = some (.bool con) ∧ w'.cell? ⟨w.heap.size, 6, none⟩ = some (.int .i64 len) ∧ Tab w' ∧ Below w.heap.size w w' ∧ w.heap.size < w'.heap.size)
    (first | exact held_start w tab o d hl 0 m con len | exact held_next (by assumption) (by assumption))
    (first | (go_at_call 4; refine (h4 _ (by first | assumption | exact held_tab (w := w) (o := o) (d := d) (hl := hl) (cls := 0) (num := m) (con := con) (len := len) (by assumption))).mono ?_; rintro e w' ⟨rfl, hb⟩) | (go_at_call 5; refine (h5 _ (by first | assumption | exact held_tab (w := w) (o := o) (d := d) (hl := hl) (cls := 0) (num := m) (con := con) (len := len) (by assumption))).mono ?_; rintro e w' ⟨rfl, hb⟩))
  have fin : ∀ {w1 : World}, Held w o d hl 0 m con len w1 → Below w.heap.size w w1 := fun h => h.2.2.2.2.2.2.2.2.1
  go_wp2
  go_ret
  exact ⟨rfl, fin (by assumption)⟩

/-- the law, whatever the input -/
theorem law_any (cls num : Int) (hn : 0 ≤ num) (con : Bool) (len o d hl : Int) (w : World) (tab : Tab w) :
    Calls Ybad.prog 3 #[.int .u8 cls, .int .u32 num, .bool con, .int .i64 len, .int .i64 o, .int .i64 d, .int .i64 hl] w fun e w' => e = .returned (.bool true) ∧ Below w.heap.size w w' := by
  by_cases hc : cls = 0
  · subst hc; exact law_univ num (num % 2) hn rfl con len o d hl w tab
  · exact law_other cls num con len o d hl hc w tab
end Go.Proofs.YbulkeisoDoor
