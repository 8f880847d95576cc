import Derived.Test.YbulkeipwFill
namespace Go.Proofs.Ybulkeipw
open Go.RowKit
set_option linter.unusedVariables false

theorem same_any (s : ByteArray) (w : World) :
    Calls Yba.prog 22 #[.string s] w fun e w' => e = .returned (.func (.func 41) #[] #[.pointer (some ⟨w.heap.size, 0, none⟩)]) ∧ w' = w.alloc (.cells #[.string s] 9) := by
  have hmf : ∀ (fn : Fn) (first cap : Array Value) (w : World), (Instr.makeFunc fn first cap).run Yba.prog w = .ok (.func fn first cap) w := fun _ _ _ _ => rfl
  go_enter Yba.func22, Yba.ntmps22
  go_wp2
  go_ret
  exact ⟨rfl, rfl⟩

theorem same_yes (q : Nat) (x s : ByteArray) (w : World) (e : x = s) (hq : w.cell? ⟨q, 0, none⟩ = some (.string s)) :
    Calls Yba.prog 41 #[.string x, .pointer (some ⟨q, 0, none⟩)] w fun e w' => e = .returned (.bool true) ∧ w' = w := by
  have t1 := str_eq e
  clear e
  go_enter Yba.func41, Yba.ntmps41
  go_wp2
  go_ret
  exact ⟨rfl, rfl⟩
theorem same_no (q : Nat) (x s : ByteArray) (w : World) (e : ¬ x = s) (hq : w.cell? ⟨q, 0, none⟩ = some (.string s)) :
    Calls Yba.prog 41 #[.string x, .pointer (some ⟨q, 0, none⟩)] w fun e w' => e = .returned (.bool false) ∧ w' = w := by
  have t1 := str_ne e
  clear e
  go_enter Yba.func41, Yba.ntmps41
  go_wp2
  go_ret
  exact ⟨rfl, rfl⟩

theorem indexf_any (a : Option Addr) (c q : Nat) (ss : List ByteArray) (s : ByteArray) (w : World) (hn : ss.length ≤ 100000) (h : Strs w a ss) (hm : s ∈ ss) (hq : w.cell? ⟨q, 0, none⟩ = some (.string s)) :
    Calls Yba.prog 38 #[.slice a ss.length c, .func (.func 41) #[] #[.pointer (some ⟨q, 0, none⟩)]] w fun e w' => ∃ k : Nat, e = .returned (.int .i64 k) ∧ k < ss.length ∧ ss.getD k ByteArray.empty = s ∧ w' = w := by
  have HM : Hid (s ∈ ss) := hm
  clear hm
  go_enter Yba.func38, Yba.ntmps38
  go_wp2
  go_loop [8] (fun i => ∃ k : Nat, k ≤ ss.length ∧ i = .int .i64 k ∧ ∀ j, j < k → ss.getD j ByteArray.empty ≠ s) (fun i => ss.length - (intOf i).toNat)
  case atStart => exact ⟨0, by omega, rfl, fun j hj => by omega⟩
  case round =>
    obtain ⟨k, hk, rfl, hno⟩ := hrel
    by_cases hlt : k < ss.length
    · obtain ⟨g, o, ha, _, hr⟩ := h (by intro e; simp [e] at hlt)
      subst ha
      obtain ⟨x, hx⟩ : ∃ x, x = ss.getD k ByteArray.empty := ⟨_, rfl⟩
      have hc : w.cell? ⟨g, o + k, none⟩ = some (.string x) := by rw [hx]; exact hr k hlt
      have HX : Hid (x = ss.getD k ByteArray.empty) := hx
      clear hx hr h
      by_cases e : x = s
      · have HE : Hid (x = s) := e
        have HQ := hide hq
        clear e hno hq
        go_wp2_with (go_at_call 41; refine (same_yes q x s _ HE.out HQ.out).mono ?_; rintro e w' ⟨rfl, rfl⟩)
        go_ret
        exact ⟨k, rfl, hlt, by rw [← HX.out]; exact HE.out, rfl⟩
      · have HN : Hid (∀ j, j < k → ss.getD j ByteArray.empty ≠ s) := hno
        have HE : Hid (¬ x = s) := e
        have HQ := hide hq
        clear e hno hq
        go_wp2_with (go_at_call 41; refine (same_no q x s _ HE.out HQ.out).mono ?_; rintro e w' ⟨rfl, rfl⟩)
        go_round
        case rel => exact ⟨k + 1, by omega, by go_num, fun j hj => by
          by_cases ej : j = k
          · rw [ej, ← HX.out]; exact fun h => HE.out h
          · exact HN.out j (by omega)⟩
        case measure => simp [intOf]; omega
    · exfalso
      obtain ⟨j, hj, e⟩ := List.getElem_of_mem HM.out
      exact hno j (by omega) (by simp [List.getD, hj, e])
end Go.Proofs.Ybulkeipw
