import Derived.Test.YbulkeipwStrs
import Derived.Maps.AppendAt
namespace Go.Proofs.Ybulkeipw
open Go.RowKit
set_option linter.unusedVariables false

theorem Yba.info9 : (Yba.prog.info? 9).map (fun i => (i.zero, i.size, i.bytes)) = some (some (.string { data := #[] }), 1, 16) := by kernel_rfl

/-! ### slices.Equal 27 -/
theorem eqs_zero (a0 a1 : Option Addr) (c0 c1 : Nat) (w : World) :
    Calls Yba.prog 27 #[.slice a0 0 c0, .slice a1 0 c1] w fun e w' => e = .returned (.bool true) ∧ Below w.heap.size w w' := by
  go_enter Yba.func27, Yba.ntmps27
  go_wp2
  refine wp_loop_rounds 1 ?_
  rw [rounds_succ]
  go_wp2
  go_ret
  exact ⟨rfl, Below.refl _ _⟩

theorem eqs_any (a0 a1 : Option Addr) (c0 c1 : Nat) (ss : List ByteArray) (w : World) (hn : ss.length ≤ 100000) (h0 : Strs w a0 ss) (h1 : Strs w a1 ss) :
    Calls Yba.prog 27 #[.slice a0 ss.length c0, .slice a1 ss.length c1] w fun e w' => e = .returned (.bool true) ∧ Below w.heap.size w w' := by
  by_cases hz : ss = []
  · subst hz; exact eqs_zero a0 a1 c0 c1 w
  obtain ⟨b0, o0, rfl, _, g0⟩ := h0 hz
  obtain ⟨b1, o1, rfl, _, g1⟩ := h1 hz
  have hne : ((ss.length : Int) != (ss.length : Int)) = false := by simp
  clear h0 h1
  go_enter Yba.func27, Yba.ntmps27
  go_wp2
  go_loopw [13] (fun i wr => ∃ k q : Nat, k ≤ ss.length ∧ i = .int .i64 k ∧ wr = w.drewN q) (fun i _ => ss.length - (intOf i).toNat)
  case atStart => exact ⟨0, 0, by omega, rfl, rfl⟩
  case round =>
    obtain ⟨k, q, hk, rfl, rfl⟩ := hrel
    by_cases hlt : k < ss.length
    · obtain ⟨x, hx⟩ : ∃ x, x = ss.getD k ByteArray.empty := ⟨_, rfl⟩
      have e0 : w.cell? ⟨b0, o0 + k, none⟩ = some (.string x) := by rw [hx]; exact g0 k hlt
      have e1 : w.cell? ⟨b1, o1 + k, none⟩ = some (.string x) := by rw [hx]; exact g1 k hlt
      have hne2 := str_eq (a := x) rfl
      clear g0 g1 hx
      go_wp2
      go_quiet (fail)
      go_wp2
      go_roundw
      case rel => exact ⟨k + 1, q + nq, by omega, by go_num, by simp [World.drewN]⟩
      case measure => simp [intOf]; omega
    · go_wp2
      go_ret
      exact ⟨rfl, below_drewN (Below.refl _ _) _⟩

/-! ### rows of strings that the call owns -/
/-- block g is a row whose first cells are the strings ss -/
def OwnS (w : World) (g cap : Nat) (ss : List ByteArray) : Prop := ∃ cur, Blk w g cur 9 ∧ cur.size = cap ∧ ss.length ≤ cap ∧ cap ≤ maxLen ∧ cur.toList.take ss.length = ss.map Value.string

theorem strs_oneCell (ss : List ByteArray) : ∀ u ∈ ss.map Value.string, u.oneCell' = true := by
  intro u hu
  obtain ⟨_, _, rfl⟩ := List.mem_map.1 hu
  rfl
theorem OwnS.lt {w : World} {g cap : Nat} {ss : List ByteArray} (h : OwnS w g cap ss) : g < w.heap.size := by obtain ⟨cur, hb, _⟩ := h; exact hb.lt
theorem OwnS.congr {w w' : World} {g cap : Nat} {ss : List ByteArray} (h : OwnS w g cap ss) (e : w'.heap[g]? = w.heap[g]?) : OwnS w' g cap ss := by
  obtain ⟨cur, hb, hr⟩ := h; exact ⟨cur, hb.congr e, hr⟩
theorem OwnS.row {w : World} {g cap : Nat} {ss : List ByteArray} (h : OwnS w g cap ss) : RowS w g 0 ss := by
  obtain ⟨cur, hb, h1, h2, h3, h4⟩ := h
  intro i hi
  rw [Nat.zero_add, hb.cell i]
  have e := congrArg (fun l => l[i]?) h4
  simp only [List.getElem?_take, hi, if_true, List.getElem?_map, Array.getElem?_toList] at e
  rw [e]
  simp [List.getD, hi]
theorem OwnS.strs {w : World} {g cap : Nat} {ss : List ByteArray} (h : OwnS w g cap ss) : Strs w (some ⟨g, 0, none⟩) ss := fun _ => ⟨g, 0, rfl, h.lt, h.row⟩
theorem OwnS.owns {w : World} {g cap : Nat} {ss : List ByteArray} (h : OwnS w g cap ss) {base : Nat} (hb : base ≤ g) : w.ownsRow base 9 1 (.slice (some ⟨g, 0, none⟩) ss.length cap) ss.length (ss.map Value.string) := by
  obtain ⟨cur, h0, h1, h2, h3, h4⟩ := h
  exact ⟨by simp, .inr ⟨g, cap, cur, rfl, hb, h0, h2, h3, by omega, by simpa using h4⟩⟩
theorem ownS_of {w : World} {base : Nat} {v : Value} {n : Nat} {ss : List ByteArray} (h : w.ownsRow base 9 1 v n (ss.map Value.string)) (hv : v ≠ .slice none 0 0) :
    ∃ g cap, v = .slice (some ⟨g, 0, none⟩) ss.length cap ∧ base ≤ g ∧ OwnS w g cap ss := by
  obtain ⟨hl, ⟨h1, _⟩ | ⟨g, cap, cur, rfl, hb, hh, hnc, hcm, hcs, ht⟩⟩ := h
  · exact absurd h1 hv
  · have : n = ss.length := by simpa using hl.symm
    subst this
    exact ⟨g, cap, rfl, hb, cur, hh, by omega, hnc, hcm, by simpa using ht⟩
theorem RowS.news {w : World} {g o : Nat} {ss : List ByteArray} (h : RowS w g o ss) : ∀ j u, (ss.map Value.string)[j]? = some u → w.cell? ((⟨g, o, none⟩ : Addr).add j) = some u := by
  intro j u hu
  rw [List.getElem?_map, Option.map_eq_some_iff] at hu
  obtain ⟨v, hv, rfl⟩ := hu
  obtain ⟨hj, rfl⟩ := List.getElem?_eq_some_iff.1 hv
  rw [Addr.add_lit, h j hj]
  simp [List.getD, hj]
theorem RowS.alloc {w : World} {g o : Nat} {ss : List ByteArray} (h : RowS w g o ss) (hg : g < w.heap.size) (x : Obj) : RowS (w.alloc x) g o ss := h.congr (Below.heap_alloc _ _ _ hg)

/-! ### slices.Clone 46, of a slice that holds something -/
theorem clone46 (g cap : Nat) (ss : List ByteArray) (w : World) (hn : ss.length ≤ 100000) (hc : OwnS w g cap ss) :
    Calls Yba.prog 46 #[.slice (some ⟨g, 0, none⟩) ss.length cap] w fun e w' => (∃ g' cap' : Nat, e = .returned (.slice (some ⟨g', 0, none⟩) ss.length cap') ∧ w.heap.size ≤ g' ∧ OwnS w' g' cap' ss) ∧ Below w.heap.size w w' := by
  obtain ⟨i0, hi, hz0, hz1, hz2⟩ := info_parts Yba.info9
  have hnil := fun (W : World) => Lib.run_eql_slice_nil (P := Yba.prog) W 22 9 (some ⟨g, 0, none⟩) ss.length cap 0 0 Yba.underlying22
  have hown : (w.alloc (.cells #[] 9)).ownsRow w.heap.size 9 1 (.slice (some ⟨w.heap.size, 0, none⟩) 0 0) 0 [] := World.ownsRow_made w #[] 0 (Nat.le_refl _) (by simp [maxLen]) rfl
  have hrow := (hc.row.alloc hc.lt (.cells #[] 9)).news
  clear hc
  go_enter Yba.func46, Yba.ntmps46
  go_wp2_with (at_builtin; refine wpList_append_own _ rfl _ _ 22 rfl w.heap.size 9 i0 (.string { data := #[] }) 1 16 Yba.underlying22 hi hz0 hz1 hz2 rfl (by decide) (.slice (some ⟨w.heap.size, 0, none⟩) 0 0) 0 [] rfl hown ⟨g, 0, none⟩ ss.length cap (ss.map Value.string) rfl (by simp) hrow (strs_oneCell _) (by unfold maxLen; omega) (by omega) (by simp) ?_; intro v' w1 hown' hgrow hnil')
  have hne : v' ≠ .slice none 0 0 := fun h => by simpa using hnil'.1 h
  simp only [Nat.zero_add, List.nil_append] at hown'
  obtain ⟨g', cap', hv, hg1, hrow'⟩ := ownS_of hown' hne
  have hbel : Below w.heap.size w w1 := ((Below.refl _ _).alloc (Nat.le_refl _) _).grown hgrow (by simp) (fun k hk => by simp [Value.ownBlock] at hk; omega)
  clear hnil hown hnil' hrow hown' hgrow hne
  rw [hv]
  clear hv
  go_wp2
  go_ret
  exact ⟨⟨g', cap', rfl, hg1, hrow'⟩, hbel⟩
end Go.Proofs.Ybulkeipw
