import Derived.Test.YbulkeipwNewEdit
namespace Go.Proofs.Ybulkeipw
open Go.RowKit
set_option linter.unusedVariables false

/-- a row of strings at (g, o) -/
def RowS (w : World) (g o : Nat) (ss : List ByteArray) : Prop := ∀ i, i < ss.length → w.cell? ⟨g, o + i, none⟩ = some (.string (ss.getD i ByteArray.empty))
/-- the slice at address a, of the strings ss -/
def Strs (w : World) (a : Option Addr) (ss : List ByteArray) : Prop := ss ≠ [] → ∃ g o, a = some ⟨g, o, none⟩ ∧ g < w.heap.size ∧ RowS w g o ss

theorem RowS.below {w w' : World} {B g o : Nat} {ss : List ByteArray} (h : RowS w g o ss) (hb : Below B w w') (hg : g < B) : RowS w' g o ss := fun i hi => by
  rw [hb.cell (p := ⟨g, o + i, none⟩) hg]; exact h i hi
theorem RowS.congr {w w' : World} {g o : Nat} {ss : List ByteArray} (h : RowS w g o ss) (e : w'.heap[g]? = w.heap[g]?) : RowS w' g o ss := fun i hi => by
  rw [World.cell?_of_block (w := w) (a := ⟨g, o + i, none⟩) e]; exact h i hi
theorem Strs.below {w w' : World} {a : Option Addr} {ss : List ByteArray} (h : Strs w a ss) (hb : Below w.heap.size w w') : Strs w' a ss := fun hne => by
  obtain ⟨g, o, ha, hg, hr⟩ := h hne
  exact ⟨g, o, ha, Nat.lt_of_lt_of_le hg hb.size, hr.below hb hg⟩
theorem Strs.drewN {w : World} {a : Option Addr} {ss : List ByteArray} (h : Strs w a ss) (q : Nat) : Strs (w.drewN q) a ss := h

/-! ### slices.Index 9, slices.Contains 4 -/
theorem index_any (a : Option Addr) (c : Nat) (ss : List ByteArray) (s : ByteArray) (w : World) (hn : ss.length ≤ 100000) (h : Strs w a ss) :
    Calls Yba.prog 9 #[.slice a ss.length c, .string s] w fun e w' => ∃ r : Int, e = .returned (.int .i64 r) ∧ (s ∈ ss → 0 ≤ r) ∧ (s ∉ ss → r = -1) ∧ w' = w := by
  go_enter Yba.func9, Yba.ntmps9
  go_wp2
  go_loop [8] (fun i => ∃ k : Nat, k ≤ ss.length ∧ i = .int .i64 k ∧ ∀ j, j < k → ss.getD j ByteArray.empty ≠ s) (fun i => ss.length - (intOf i).toNat)
  case atStart => exact ⟨0, by omega, rfl, fun j hj => by omega⟩
  case round =>
    obtain ⟨k, hk, rfl, hno⟩ := hrel
    by_cases hlt : k < ss.length
    · obtain ⟨g, o, ha, _, hr⟩ := h (by intro e; simp [e] at hlt)
      subst ha
      obtain ⟨x, hx⟩ : ∃ x, x = ss.getD k ByteArray.empty := ⟨_, rfl⟩
      have hc : w.cell? ⟨g, o + k, none⟩ = some (.string x) := by rw [hx]; exact hr k hlt
      have HX : Hid (x = ss.getD k ByteArray.empty) := hx
      clear hx hr h
      by_cases e : s = x
      · have t1 := str_eq e
        have hmem : Hid (s ∈ ss) := by show s ∈ ss; rw [e, HX.out]; simp [List.getD, hlt]
        clear e
        go_wp2
        go_ret
        exact ⟨k, rfl, fun _ => by omega, fun h => absurd hmem.out h, rfl⟩
      · have t1 := str_ne e
        have HN : Hid (∀ j, j < k → ss.getD j ByteArray.empty ≠ s) := hno
        have HE : Hid (¬ s = x) := e
        clear e hno
        go_wp2
        go_round
        case rel => exact ⟨k + 1, by omega, by go_num, fun j hj => by
          by_cases ej : j = k
          · rw [ej, ← HX.out]; exact fun h => HE.out h.symm
          · exact HN.out j (by omega)⟩
        case measure => simp [intOf]; omega
    · have hmem : Hid (s ∉ ss) := by
        show s ∉ ss
        intro hm
        obtain ⟨j, hj, rfl⟩ := List.getElem_of_mem hm
        exact hno j (by omega) (by simp [List.getD, hj])
      clear hno
      go_wp2
      go_ret
      exact ⟨-1, rfl, fun h => absurd h hmem.out, fun _ => rfl, rfl⟩

theorem contains_yes (a : Option Addr) (c : Nat) (ss : List ByteArray) (s : ByteArray) (w : World) (hn : ss.length ≤ 100000) (h : Strs w a ss) (hm : s ∈ ss) :
    Calls Yba.prog 4 #[.slice a ss.length c, .string s] w fun e w' => e = .returned (.bool true) ∧ w' = w := by
  have H := index_any a c ss s w hn h
  clear h
  go_enter Yba.func4, Yba.ntmps4
  go_wp2_with fail
  refine H.mono ?_
  rintro e w' ⟨r, rfl, h1, h2, rfl⟩
  have hd : decide (0 ≤ r) = true := by simpa using h1 hm
  clear h1 h2
  go_wp2
  go_ret
  exact ⟨rfl, rfl⟩
theorem contains_no (a : Option Addr) (c : Nat) (ss : List ByteArray) (s : ByteArray) (w : World) (hn : ss.length ≤ 100000) (h : Strs w a ss) (hm : s ∉ ss) :
    Calls Yba.prog 4 #[.slice a ss.length c, .string s] w fun e w' => e = .returned (.bool false) ∧ w' = w := by
  have H := index_any a c ss s w hn h
  clear h
  go_enter Yba.func4, Yba.ntmps4
  go_wp2_with fail
  refine H.mono ?_
  rintro e w' ⟨r, rfl, h1, h2, rfl⟩
  have h3 := h2 hm
  subst h3
  clear h1 h2
  go_wp2
  go_ret
  exact ⟨rfl, rfl⟩
end Go.Proofs.Ybulkeipw
