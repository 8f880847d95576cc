import Derived.Test.YbulkeipwStrs2
namespace Go.Proofs.Ybulkeipw
open Go.RowKit
set_option linter.unusedVariables false

/-- the first m resources' children of k, the one at 'skip' left out -/
def kids (D Pr : List ByteArray) (k : ByteArray) (skip : Int) : Nat → List ByteArray
  | 0 => []
  | m + 1 => kids D Pr k skip m ++ (if (m : Int) ≠ skip ∧ Pr.getD m ByteArray.empty = k then [D.getD m ByteArray.empty] else [])

theorem kids_len (D Pr : List ByteArray) (k : ByteArray) (skip : Int) (m : Nat) : (kids D Pr k skip m).length ≤ m := by
  induction m with
  | zero => simp [kids]
  | succ m ih => simp only [kids, List.length_append]; split <;> simp <;> omega

theorem owns_shape {w : World} {base : Nat} {v : Value} {n : Nat} {ss : List ByteArray} (h : w.ownsRow base 9 1 v n (ss.map Value.string)) : ∃ a c, v = .slice a ss.length c ∧ Strs w a ss := by
  by_cases hv : v = .slice none 0 0
  · subst hv
    obtain ⟨hl, ⟨_, h0⟩ | ⟨g, cap, cur, h1, _⟩⟩ := h
    · subst h0
      have : ss = [] := List.eq_nil_of_length_eq_zero (by simpa using hl)
      subst this
      exact ⟨none, 0, rfl, fun h => absurd rfl h⟩
    · cases h1
  · obtain ⟨g, cap, rfl, _, ho⟩ := ownS_of h hv
    exact ⟨_, _, rfl, ho.strs⟩

theorem Strs.cell {w : World} {a : Option Addr} {ss : List ByteArray} (h : Strs w a ss) {i : Nat} (hi : i < ss.length) : ∃ g o, a = some ⟨g, o, none⟩ ∧ g < w.heap.size ∧ w.cell? ⟨g, o + i, none⟩ = some (.string (ss.getD i ByteArray.empty)) := by
  obtain ⟨g, o, ha, hg, hr⟩ := h (by intro e; simp [e] at hi)
  exact ⟨g, o, ha, hg, hr i hi⟩

set_option maxRecDepth 20000 in
set_option maxHeartbeats 1000000 in
theorem kids_any (ad ap : Option Addr) (cd cp n : Nat) (D Pr : List ByteArray) (k : ByteArray) (skip : Int) (w : World) (hD : D.length = n) (hP : Pr.length = n) (hn : n ≤ 4096) (sD : Strs w ad D) (sP : Strs w ap Pr) :
    Calls Yba.prog 25 #[.slice ad n cd, .slice ap n cp, .string k, .int .i64 skip] w fun e w' => (∃ a c, e = .returned (.slice a (kids D Pr k skip n).length c) ∧ Strs w' a (kids D Pr k skip n)) ∧ Below w.heap.size w w' := by
  obtain ⟨i0, hi, hz0, hz1, hz2⟩ := info_parts Yba.info9
  go_enter Yba.func25, Yba.ntmps25
  go_wp2
  go_loopw [9, 10] (fun v i wr => ∃ m : Nat, m ≤ n ∧ i = .int .i64 m ∧ wr.ownsRow w.heap.size 9 1 v (kids D Pr k skip m).length ((kids D Pr k skip m).map Value.string) ∧ Below w.heap.size w wr) (fun _ i _ => n - (intOf i).toNat)
  case atStart => exact ⟨0, by omega, rfl, World.ownsRow_nil _ _ _ _, Below.refl _ _⟩
  case round =>
    obtain ⟨m, hm, rfl, hown, hb⟩ := hrel
    by_cases hlt : m < n
    · obtain ⟨gp, op, hap, hgp, hcp⟩ := sP.cell (i := m) (by omega)
      obtain ⟨gd, od, had, hgd, hcd⟩ := sD.cell (i := m) (by omega)
      subst hap
      subst had
      obtain ⟨xp, hxp⟩ : ∃ x, x = Pr.getD m ByteArray.empty := ⟨_, rfl⟩
      obtain ⟨xd, hxd⟩ : ∃ x, x = D.getD m ByteArray.empty := ⟨_, rfl⟩
      have e0 : wr.cell? ⟨gp, op + m, none⟩ = some (.string xp) := by rw [hb.cell (p := ⟨gp, op + m, none⟩) hgp, hcp, hxp]
      have e1 : wr.cell? ⟨gd, od + m, none⟩ = some (.string xd) := by rw [hb.cell (p := ⟨gd, od + m, none⟩) hgd, hcd, hxd]
      have hlen := kids_len D Pr k skip m
      have KE : Hid (kids D Pr k skip (m + 1) = kids D Pr k skip m ++ (if (m : Int) ≠ skip ∧ xp = k then [xd] else [])) := by show _ = _; rw [hxp, hxd]; rfl
      clear hcp hcd hxp hxd sP sD
      have hws := hb.size
      by_cases h1 : (m : Int) = skip
      · have t1 : ((m : Int) != skip) = false := by simp [h1]
        have KE' : Hid (kids D Pr k skip (m + 1) = kids D Pr k skip m) := by show _ = _; rw [KE.out]; simp [h1]
        clear h1 KE
        go_wp2
        go_roundw
        case rel => exact ⟨m + 1, by omega, by go_num, by rw [KE'.out]; exact hown, hb⟩
        case measure => simp [intOf]; omega
      · have t1 : ((m : Int) != skip) = true := by rw [bne_iff_ne]; exact h1
        by_cases h2 : xp = k
        · have t2 := str_eq h2
          have KE' : Hid (kids D Pr k skip (m + 1) = kids D Pr k skip m ++ [xd]) := by show _ = _; rw [KE.out]; simp [h1, h2]
          clear h1 h2 KE
          go_wp2_with (at_builtin; refine wpList_append_own _ rfl _ _ 22 rfl w.heap.size 9 i0 (.string { data := #[] }) 1 16 Yba.underlying22 hi hz0 hz1 hz2 rfl (by decide) u9 _ _ rfl (hown.alloc _) ⟨wr.heap.size, 0, none⟩ 1 1 [.string xd] rfl rfl (cell_one_new _ _ _) (strs_oneCell [xd]) ?h1 ?h2 ?h3 ?_)
          case h1 => unfold maxLen; omega
          case h2 => omega
          case h3 => simp; omega
          intro v' w1 hown' hgrow hnn
          have hb1 : Below w.heap.size w w1 := (hb.alloc hws _).grown hgrow (by simp; omega) (fun j hj => (hown.lt j hj).1)
          have hown2 : w1.ownsRow w.heap.size 9 1 v' (kids D Pr k skip (m + 1)).length ((kids D Pr k skip (m + 1)).map Value.string) := by
            rw [KE'.out]; simpa using hown'
          have HO : Hid (w1.ownsRow w.heap.size 9 1 v' (kids D Pr k skip (m + 1)).length ((kids D Pr k skip (m + 1)).map Value.string)) := hown2
          clear hown' hgrow hnn hown hown2
          go_wp2
          go_roundw
          case rel => exact ⟨m + 1, by omega, by go_num, HO.out, hb1⟩
          case measure => simp [intOf]; omega
        · have t2 := str_ne h2
          have KE' : Hid (kids D Pr k skip (m + 1) = kids D Pr k skip m) := by show _ = _; rw [KE.out]; simp [h2]
          clear h1 h2 KE
          go_wp2
          go_roundw
          case rel => exact ⟨m + 1, by omega, by go_num, by rw [KE'.out]; exact hown, hb⟩
          case measure => simp [intOf]; omega
    · obtain rfl : m = n := by omega
      obtain ⟨a, c, hv, hs⟩ := owns_shape hown
      rw [hv]
      clear hv hown
      go_wp2
      go_ret
      exact ⟨⟨a, c, rfl, hs⟩, hb⟩
end Go.Proofs.Ybulkeipw
