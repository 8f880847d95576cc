import Derived.Test.YbulkeisoDoorRows
import Derived.WalkKit
import Derived.WalkSpells
import Derived.StillTactics
import Derived.Laws.Pointers
import Derived.Deep.RegionHeld3
import Derived.RowKit3
namespace Go.Proofs.YbulkeisoDoor
open Go.RowKit
set_option linter.unusedVariables false

/-- What the listed table gives the walks: the rows of EOC and BOOLEAN. -/
structure Tab (w : World) : Prop where
  n0 : w.cell? ⟨0, 0, none⟩ = some (.string { data := #[69, 79, 67] })
  f0 : w.cell? ⟨0, 1, none⟩ = some (.int .u8 1)
  n1 : w.cell? ⟨0, 2, none⟩ = some (.string { data := #[66, 79, 79, 76, 69, 65, 78] })
  f1 : w.cell? ⟨0, 3, none⟩ = some (.int .u8 1)
  lt : 0 < w.heap.size

/-- An Element as its cells. -/
abbrev elt (o d hl cls num : Int) (con : Bool) (len : Int) : Value := .agg #[.int .i64 o, .int .i64 d, .int .i64 hl, .int .u8 cls, .int .u32 num, .bool con, .int .i64 len]

/-- A function that returns the string S of this element and writes nothing that was there. -/
def Gives (f : FuncId) (E : Value) (S : ByteArray) : Prop := ∀ w, Tab w → Calls Ybad.prog f #[E] w fun e w' => e = .returned (.string S) ∧ Below w.heap.size w w'

theorem con0_4 (o d hl len : Int) : Gives 4 (elt o d hl 0 0 true len) { data := #[69, 79, 67, 32, 105, 110, 32, 116, 104, 101, 32, 99, 111, 110, 115, 116, 114, 117, 99, 116, 101, 100, 32, 102, 111, 114, 109] } := by
  intro w ⟨n0, f0, n1, f1, lt⟩
  go_enter Ybad.func4, Ybad.ntmps4
  go_wp2
  all_goals go_ret
  all_goals exact ⟨rfl, by repeat (first | exact Below.refl _ _ | refine Below.drew ?_ | refine Below.alloc ?_ (by first | (simp; done) | (simp; omega)) _)⟩
theorem con0_5 (o d hl len : Int) : Gives 5 (elt o d hl 0 0 true len) { data := #[69, 79, 67, 32, 105, 110, 32, 116, 104, 101, 32, 99, 111, 110, 115, 116, 114, 117, 99, 116, 101, 100, 32, 102, 111, 114, 109] } := by
  intro w ⟨n0, f0, n1, f1, lt⟩
  go_enter Ybad.func5, Ybad.ntmps5
  go_wp2
  all_goals go_ret
  all_goals exact ⟨rfl, by repeat (first | exact Below.refl _ _ | refine Below.drew ?_ | refine Below.alloc ?_ (by first | (simp; done) | (simp; omega)) _)⟩
theorem ind0_4 (o d hl : Int) (len : Int) (h1 : len = -1) : Gives 4 (elt o d hl 0 0 false len) { data := #[105, 110, 100, 101, 102, 105, 110, 105, 116, 101, 32, 108, 101, 110, 103, 116, 104, 32, 111, 110, 32, 97, 32, 112, 114, 105, 109, 105, 116, 105, 118, 101, 32, 101, 108, 101, 109, 101, 110, 116] } := by
  intro w ⟨n0, f0, n1, f1, lt⟩
  subst h1
  go_enter Ybad.func4, Ybad.ntmps4
  go_wp2
  all_goals go_ret
  all_goals exact ⟨rfl, by repeat (first | exact Below.refl _ _ | refine Below.drew ?_ | refine Below.alloc ?_ (by first | (simp; done) | (simp; omega)) _)⟩
theorem ind0_5 (o d hl : Int) (len : Int) (h1 : len = -1) : Gives 5 (elt o d hl 0 0 false len) { data := #[105, 110, 100, 101, 102, 105, 110, 105, 116, 101, 32, 108, 101, 110, 103, 116, 104, 32, 111, 110, 32, 97, 32, 112, 114, 105, 109, 105, 116, 105, 118, 101, 32, 101, 108, 101, 109, 101, 110, 116] } := by
  intro w ⟨n0, f0, n1, f1, lt⟩
  subst h1
  go_enter Ybad.func5, Ybad.ntmps5
  go_wp2
  all_goals go_ret
  all_goals exact ⟨rfl, by repeat (first | exact Below.refl _ _ | refine Below.drew ?_ | refine Below.alloc ?_ (by first | (simp; done) | (simp; omega)) _)⟩
theorem con1_4 (o d hl len : Int) : Gives 4 (elt o d hl 0 1 true len) { data := #[66, 79, 79, 76, 69, 65, 78, 32, 105, 110, 32, 116, 104, 101, 32, 99, 111, 110, 115, 116, 114, 117, 99, 116, 101, 100, 32, 102, 111, 114, 109] } := by
  intro w ⟨n0, f0, n1, f1, lt⟩
  go_enter Ybad.func4, Ybad.ntmps4
  go_wp2
  all_goals go_ret
  all_goals exact ⟨rfl, by repeat (first | exact Below.refl _ _ | refine Below.drew ?_ | refine Below.alloc ?_ (by first | (simp; done) | (simp; omega)) _)⟩
theorem con1_5 (o d hl len : Int) : Gives 5 (elt o d hl 0 1 true len) { data := #[66, 79, 79, 76, 69, 65, 78, 32, 105, 110, 32, 116, 104, 101, 32, 99, 111, 110, 115, 116, 114, 117, 99, 116, 101, 100, 32, 102, 111, 114, 109] } := by
  intro w ⟨n0, f0, n1, f1, lt⟩
  go_enter Ybad.func5, Ybad.ntmps5
  go_wp2
  all_goals go_ret
  all_goals exact ⟨rfl, by repeat (first | exact Below.refl _ _ | refine Below.drew ?_ | refine Below.alloc ?_ (by first | (simp; done) | (simp; omega)) _)⟩
theorem ind1_4 (o d hl : Int) (len : Int) (h1 : len = -1) : Gives 4 (elt o d hl 0 1 false len) { data := #[105, 110, 100, 101, 102, 105, 110, 105, 116, 101, 32, 108, 101, 110, 103, 116, 104, 32, 111, 110, 32, 97, 32, 112, 114, 105, 109, 105, 116, 105, 118, 101, 32, 101, 108, 101, 109, 101, 110, 116] } := by
  intro w ⟨n0, f0, n1, f1, lt⟩
  subst h1
  go_enter Ybad.func4, Ybad.ntmps4
  go_wp2
  all_goals go_ret
  all_goals exact ⟨rfl, by repeat (first | exact Below.refl _ _ | refine Below.drew ?_ | refine Below.alloc ?_ (by first | (simp; done) | (simp; omega)) _)⟩
theorem ind1_5 (o d hl : Int) (len : Int) (h1 : len = -1) : Gives 5 (elt o d hl 0 1 false len) { data := #[105, 110, 100, 101, 102, 105, 110, 105, 116, 101, 32, 108, 101, 110, 103, 116, 104, 32, 111, 110, 32, 97, 32, 112, 114, 105, 109, 105, 116, 105, 118, 101, 32, 101, 108, 101, 109, 101, 110, 116] } := by
  intro w ⟨n0, f0, n1, f1, lt⟩
  subst h1
  go_enter Ybad.func5, Ybad.ntmps5
  go_wp2
  all_goals go_ret
  all_goals exact ⟨rfl, by repeat (first | exact Below.refl _ _ | refine Below.drew ?_ | refine Below.alloc ?_ (by first | (simp; done) | (simp; omega)) _)⟩
theorem eoc_4 (o d hl : Int) (len : Int) (h1 : ¬ len = -1) : Gives 4 (elt o d hl 0 0 false len) { data := #[] } := by
  intro w ⟨n0, f0, n1, f1, lt⟩
  have e1 : (len == -1) = false := by simp [h1]
  go_enter Ybad.func4, Ybad.ntmps4
  go_wp2
  all_goals go_ret
  all_goals exact ⟨rfl, by repeat (first | exact Below.refl _ _ | refine Below.drew ?_ | refine Below.alloc ?_ (by first | (simp; done) | (simp; omega)) _)⟩
theorem eoc_5 (o d hl : Int) (len : Int) (h1 : ¬ len = -1) : Gives 5 (elt o d hl 0 0 false len) { data := #[] } := by
  intro w ⟨n0, f0, n1, f1, lt⟩
  have e1 : (len == -1) = false := by simp [h1]
  go_enter Ybad.func5, Ybad.ntmps5
  go_wp2
  all_goals go_ret
  all_goals exact ⟨rfl, by repeat (first | exact Below.refl _ _ | refine Below.drew ?_ | refine Below.alloc ?_ (by first | (simp; done) | (simp; omega)) _)⟩
theorem bool1_4 (o d hl : Int) (len : Int) (h1 : len = 1) : Gives 4 (elt o d hl 0 1 false len) { data := #[] } := by
  intro w ⟨n0, f0, n1, f1, lt⟩
  subst h1
  go_enter Ybad.func4, Ybad.ntmps4
  go_wp2
  all_goals go_ret
  all_goals exact ⟨rfl, by repeat (first | exact Below.refl _ _ | refine Below.drew ?_ | refine Below.alloc ?_ (by first | (simp; done) | (simp; omega)) _)⟩
theorem bool1_5 (o d hl : Int) (len : Int) (h1 : len = 1) : Gives 5 (elt o d hl 0 1 false len) { data := #[] } := by
  intro w ⟨n0, f0, n1, f1, lt⟩
  subst h1
  go_enter Ybad.func5, Ybad.ntmps5
  go_wp2
  all_goals go_ret
  all_goals exact ⟨rfl, by repeat (first | exact Below.refl _ _ | refine Below.drew ?_ | refine Below.alloc ?_ (by first | (simp; done) | (simp; omega)) _)⟩
theorem boolx_4 (o d hl : Int) (len : Int) (h1 : ¬ len = -1) (h2 : ¬ len = 1) : Gives 4 (elt o d hl 0 1 false len) { data := #[66, 79, 79, 76, 69, 65, 78, 32, 119, 104, 111, 115, 101, 32, 99, 111, 110, 116, 101, 110, 116, 32, 105, 115, 32, 110, 111, 116, 32, 111, 110, 101, 32, 111, 99, 116, 101, 116] } := by
  intro w ⟨n0, f0, n1, f1, lt⟩
  have e1 : (len == -1) = false := by simp [h1]
  have e2 : (len != 1) = true := by simp [h2]
  go_enter Ybad.func4, Ybad.ntmps4
  go_wp2
  all_goals go_ret
  all_goals exact ⟨rfl, by repeat (first | exact Below.refl _ _ | refine Below.drew ?_ | refine Below.alloc ?_ (by first | (simp; done) | (simp; omega)) _)⟩
theorem boolx_5 (o d hl : Int) (len : Int) (h1 : ¬ len = -1) (h2 : ¬ len = 1) : Gives 5 (elt o d hl 0 1 false len) { data := #[66, 79, 79, 76, 69, 65, 78, 32, 119, 104, 111, 115, 101, 32, 99, 111, 110, 116, 101, 110, 116, 32, 105, 115, 32, 110, 111, 116, 32, 111, 110, 101, 32, 111, 99, 116, 101, 116] } := by
  intro w ⟨n0, f0, n1, f1, lt⟩
  have e1 : (len == -1) = false := by simp [h1]
  have e2 : (len != 1) = true := by simp [h2]
  go_enter Ybad.func5, Ybad.ntmps5
  go_wp2
  all_goals go_ret
  all_goals exact ⟨rfl, by repeat (first | exact Below.refl _ _ | refine Below.drew ?_ | refine Below.alloc ?_ (by first | (simp; done) | (simp; omega)) _)⟩
theorem othcon_4 (o d hl cls num len : Int) (hc : ¬ cls = 0) : Gives 4 (elt o d hl cls num true len) { data := #[] } := by
  intro w ⟨n0, f0, n1, f1, lt⟩
  have c0 : (cls == 0) = false := by simp [hc]
  have c1 : (cls != 0) = true := by simp [hc]
  go_enter Ybad.func4, Ybad.ntmps4
  go_wp2
  all_goals go_ret
  all_goals exact ⟨rfl, by repeat (first | exact Below.refl _ _ | refine Below.drew ?_ | refine Below.alloc ?_ (by first | (simp; done) | (simp; omega)) _)⟩
theorem othcon_5 (o d hl cls num len : Int) (hc : ¬ cls = 0) : Gives 5 (elt o d hl cls num true len) { data := #[] } := by
  intro w ⟨n0, f0, n1, f1, lt⟩
  have c0 : (cls == 0) = false := by simp [hc]
  have c1 : (cls != 0) = true := by simp [hc]
  go_enter Ybad.func5, Ybad.ntmps5
  go_wp2
  all_goals go_ret
  all_goals exact ⟨rfl, by repeat (first | exact Below.refl _ _ | refine Below.drew ?_ | refine Below.alloc ?_ (by first | (simp; done) | (simp; omega)) _)⟩
theorem othind_4 (o d hl cls num : Int) (hc : ¬ cls = 0) (len : Int) (h1 : len = -1) : Gives 4 (elt o d hl cls num false len) { data := #[105, 110, 100, 101, 102, 105, 110, 105, 116, 101, 32, 108, 101, 110, 103, 116, 104, 32, 111, 110, 32, 97, 32, 112, 114, 105, 109, 105, 116, 105, 118, 101, 32, 101, 108, 101, 109, 101, 110, 116] } := by
  intro w ⟨n0, f0, n1, f1, lt⟩
  have c0 : (cls == 0) = false := by simp [hc]
  have c1 : (cls != 0) = true := by simp [hc]
  subst h1
  go_enter Ybad.func4, Ybad.ntmps4
  go_wp2
  all_goals go_ret
  all_goals exact ⟨rfl, by repeat (first | exact Below.refl _ _ | refine Below.drew ?_ | refine Below.alloc ?_ (by first | (simp; done) | (simp; omega)) _)⟩
theorem othind_5 (o d hl cls num : Int) (hc : ¬ cls = 0) (len : Int) (h1 : len = -1) : Gives 5 (elt o d hl cls num false len) { data := #[105, 110, 100, 101, 102, 105, 110, 105, 116, 101, 32, 108, 101, 110, 103, 116, 104, 32, 111, 110, 32, 97, 32, 112, 114, 105, 109, 105, 116, 105, 118, 101, 32, 101, 108, 101, 109, 101, 110, 116] } := by
  intro w ⟨n0, f0, n1, f1, lt⟩
  have c0 : (cls == 0) = false := by simp [hc]
  have c1 : (cls != 0) = true := by simp [hc]
  subst h1
  go_enter Ybad.func5, Ybad.ntmps5
  go_wp2
  all_goals go_ret
  all_goals exact ⟨rfl, by repeat (first | exact Below.refl _ _ | refine Below.drew ?_ | refine Below.alloc ?_ (by first | (simp; done) | (simp; omega)) _)⟩
theorem oth_4 (o d hl cls num : Int) (hc : ¬ cls = 0) (len : Int) (h1 : ¬ len = -1) : Gives 4 (elt o d hl cls num false len) { data := #[] } := by
  intro w ⟨n0, f0, n1, f1, lt⟩
  have c0 : (cls == 0) = false := by simp [hc]
  have c1 : (cls != 0) = true := by simp [hc]
  have e1 : (len == -1) = false := by simp [h1]
  go_enter Ybad.func4, Ybad.ntmps4
  go_wp2
  all_goals go_ret
  all_goals exact ⟨rfl, by repeat (first | exact Below.refl _ _ | refine Below.drew ?_ | refine Below.alloc ?_ (by first | (simp; done) | (simp; omega)) _)⟩
theorem oth_5 (o d hl cls num : Int) (hc : ¬ cls = 0) (len : Int) (h1 : ¬ len = -1) : Gives 5 (elt o d hl cls num false len) { data := #[] } := by
  intro w ⟨n0, f0, n1, f1, lt⟩
  have c0 : (cls == 0) = false := by simp [hc]
  have c1 : (cls != 0) = true := by simp [hc]
  have e1 : (len == -1) = false := by simp [h1]
  go_enter Ybad.func5, Ybad.ntmps5
  go_wp2
  all_goals go_ret
  all_goals exact ⟨rfl, by repeat (first | exact Below.refl _ _ | refine Below.drew ?_ | refine Below.alloc ?_ (by first | (simp; done) | (simp; omega)) _)⟩

/-- headerFault and its model give one string. -/
theorem both (o d hl cls num : Int) (con : Bool) (len : Int) (h : cls = 0 → num = 0 ∨ num = 1) : ∃ S, Gives 4 (elt o d hl cls num con len) S ∧ Gives 5 (elt o d hl cls num con len) S := by
  by_cases hc : cls = 0
  · subst hc
    rcases h rfl with rfl | rfl
    · cases con
      · by_cases h1 : len = -1
        · exact ⟨_, ind0_4 o d hl len h1, ind0_5 o d hl len h1⟩
        · exact ⟨_, eoc_4 o d hl len h1, eoc_5 o d hl len h1⟩
      · exact ⟨_, con0_4 o d hl len, con0_5 o d hl len⟩
    · cases con
      · by_cases h1 : len = -1
        · exact ⟨_, ind1_4 o d hl len h1, ind1_5 o d hl len h1⟩
        · by_cases h2 : len = 1
          · exact ⟨_, bool1_4 o d hl len h2, bool1_5 o d hl len h2⟩
          · exact ⟨_, boolx_4 o d hl len h1 h2, boolx_5 o d hl len h1 h2⟩
      · exact ⟨_, con1_4 o d hl len, con1_5 o d hl len⟩
  · cases con
    · by_cases h1 : len = -1
      · exact ⟨_, othind_4 o d hl cls num hc len h1, othind_5 o d hl cls num hc len h1⟩
      · exact ⟨_, oth_4 o d hl cls num hc len h1, oth_5 o d hl cls num hc len h1⟩
    · exact ⟨_, othcon_4 o d hl cls num len hc, othcon_5 o d hl cls num len hc⟩
end Go.Proofs.YbulkeisoDoor
