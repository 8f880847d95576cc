/-
  THE PROOF OF Rows.LawS6752BWholeSaid.
-/
import Derived.Test.YbulkeiusRows
import Derived.Test.YbulkeiusWalkN
import Derived.WalkKit
import Derived.ProofKit
import Derived.OpenShut
import Derived.ShutString
import Derived.ChangeOld
import Derived.Below
import Derived.Deep.Grids
namespace Go.Proofs.Ybulkeius
open Go.ChangeShapes Go.WideShapes Go.ChangeAt Go.RowKit
set_option linter.unusedVariables false

theorem own : ownKnob Yba.prog.godebug = none := by kernel_rfl
theorem laidOut : laidOutB Yba.prog = true := by kernel_rfl

set_option maxRecDepth 100000 in
/-- more than 65536 sizes: true at once -/
theorem walk_big (ex : Int) (a0 : Option Addr) (n c0 : Nat) (a1 : Option Addr) (n1 c1 : Nat) (w : World) (hn : 65536 < n) :
    Calls Yba.prog 3 #[.int .i64 ex, .slice a0 n c0, .slice a1 n1 c1] w fun e w' => e = .returned (.bool true) ∧ Below w.heap.size w w' := by
  have t1 : decide ((65536 : Int) < (n : Int)) = true := by simp; omega
  go_enter Yba.func3, Yba.ntmps3
  go_wp2
  go_ret
  exact ⟨rfl, Below.refl _ _⟩

set_option maxRecDepth 100000 in
/-- no sizes at all, and an expansion asked: true at once -/
theorem walk_none (ex : Int) (a0 : Option Addr) (c0 : Nat) (a1 : Option Addr) (n1 c1 : Nat) (w : World) (h0 : 0 ≤ ex) :
    Calls Yba.prog 3 #[.int .i64 ex, .slice a0 0 c0, .slice a1 n1 c1] w fun e w' => e = .returned (.bool true) ∧ Below w.heap.size w w' := by
  have t3 : decide (0 ≤ ex) = true := by simp; omega
  go_enter Yba.func3, Yba.ntmps3
  go_wp2
  refine wp_loop_rounds 1 ?_
  rw [rounds_succ]
  go_wp2
  go_ret
  exact ⟨rfl, Below.refl _ _⟩

theorem walk (ex : Int) (a0 : Option Addr) (n c0 : Nat) (a1 : Option Addr) (n1 c1 : Nat) (z : List Int) (bs : Nat → Bool) (w : World)
    (w0 : 0 < n → ∃ b off, a0 = some ⟨b, off, none⟩ ∧ b < w.heap.size ∧ ∀ i, i < n → w.cell? ⟨b, off + i, none⟩ = some (.int .u16 (z.getD i 0))) (hz : ∀ i, 0 ≤ z.getD i 0 ∧ z.getD i 0 ≤ 65535)
    (w1 : 0 < n1 → ∃ b off, a1 = some ⟨b, off, none⟩ ∧ b < w.heap.size ∧ ∀ i, i < n1 → w.cell? ⟨b, off + i, none⟩ = some (.bool (bs i))) :
    Calls Yba.prog 3 #[.int .i64 ex, .slice a0 n c0, .slice a1 n1 c1] w fun e w' => e = .returned (.bool true) ∧ Below w.heap.size w w' := by
  by_cases hn : 65536 < n
  · exact walk_big ex a0 n c0 a1 n1 c1 w hn
  by_cases h0 : ex < 0
  · exact walk_neg ex a0 n c0 a1 n1 c1 z bs w (by omega) h0 w0 hz w1
  by_cases hn0 : n = 0
  · subst hn0; exact walk_none ex a0 c0 a1 n1 c1 w (by omega)
  · exact walk_pos ex a0 n c0 a1 n1 c1 z bs w (by omega) (by omega) (by omega) w0 hz w1

set_option maxRecDepth 100000 in
theorem lifted (os : Os) (started : os.Started) (H : Type) (enc : TypeId × Value → H) :
    ReturnsInHanded {} Yba.checked os 3 .any (Rows.lawS6752BWholeSpec.pre6 enc Yba.prog Yba.f3 Rows.lawS6752BWholeRow.domain false) (Rows.lawS6752BWholeSpec.post enc Yba.prog Yba.f3 false true false false) := by
  refine returnsInHanded_of_change (C := Yba.checked) own started (by kernel_rfl) Yba.func3
    (ChangeSpec.witness6 (enc := enc) (C := Yba.checked) false ⟨#[], #[.int .i64 0, .slice none 0 0, .slice none 0 0], []⟩ 8 (by kernel_rfl) (by kernel_rfl) (by kernel_rfl) (by kernel_rfl)) ?_
  intro W base args ds gs before hval0 hW hcnd _
  have hval : ∀ (j : Nat) t v, Yba.f3.params[j]? = some t → args[j]? = some v → Value.okWide Yba.prog W .any base t v := hval0
  have hW' := hW
  obtain ⟨p, q, hA0, hV, rfl, hfz, hnd⟩ := hW
  have hA : DataW.TrodAll enc Yba.prog W 0 (fun _ => true) true Yba.f3.params.toList args.toList ds p := hA0
  rw [Yba.params3] at hA hval
  obtain ⟨v0, vs0, d0, ds0, p0, q0, hargs, rfl, rfl, h0, r0⟩ := trodAll_cons hA
  obtain ⟨v1, vs1, d1, ds1, p1, q1, rfl, rfl, rfl, h1, r1⟩ := trodAll_cons r0
  obtain ⟨v2, vs2, d2, ds2, p2, q2, rfl, rfl, rfl, h2, r2⟩ := trodAll_cons r1
  obtain ⟨rfl, rfl, rfl⟩ := trodAll_nil r2
  obtain rfl : args = #[v0, v1, v2] := by cases args; simp_all
  obtain ⟨rfl, rfl⟩ := trodVars_none hV
  obtain ⟨ex, rfl, rfl, rfl, wx⟩ := open_int Yba.underlying3 (hval 0 3 v0 rfl rfl) h0
  obtain ⟨a1, n, c1, rfl⟩ := okWide_slice Yba.underlying22 (hval 1 22 v1 rfl rfl)
  have k1 := h1
  have lt1 : ∀ x ∈ p1, x.block < W.heap.size := by obtain ⟨m, hm⟩ := k1; exact DataW.trod_lt m _ _ _ hm
  obtain ⟨z, w1, hz⟩ : ∃ z : List Int, (0 < n → ∃ b off, a1 = some ⟨b, off, none⟩ ∧ b < W.heap.size ∧ ∀ i, i < n → W.cell? ⟨b, off + i, none⟩ = some (.int .u16 (z.getD i 0))) ∧ ∀ i, 0 ≤ z.getD i 0 ∧ z.getD i 0 ≤ 65535 := by
    obtain ⟨fuel, hf⟩ := h1
    rcases open_ints Yba.underlying22 Yba.underlying24 (by kernel_rfl) hf with ⟨hcs, _⟩ | ⟨x, l, c, zs, hcs, _, hl, hm, hz, _, hcell, hwz⟩
    · simp [Value.cells] at hcs
      obtain ⟨rfl, rfl, rfl⟩ := hcs
      exact ⟨[], fun h => absurd h (by omega), fun i => by simp⟩
    · simp [Value.cells] at hcs
      obtain ⟨rfl, rfl, rfl⟩ := hcs
      have hzl : zs.length = c1 := by simpa using hz
      refine ⟨zs, fun hn => ?_, fun i => ?_⟩
      · obtain ⟨b, off, sp⟩ := x
        have hsp : sp = none := by simpa [Addr.add] using World.cell?_spot (hcell 0 (by omega))
        subst hsp
        refine ⟨b, off, rfl, ?_, fun i hi => ?_⟩
        · have := World.block_lt_of_cell? _ _ (hcell 0 (by omega)); simpa [Addr.add] using this
        · have := hcell i (by omega)
          rwa [Addr.add_lit] at this
      · by_cases hi : i < zs.length
        · have := hwz (zs.getD i 0) (by simp [List.getD, hi])
          simp [Lit.wf, IntKind.min, IntKind.max, IntKind.signed, IntKind.bits] at this ⊢
          omega
        · simp [List.getD, List.getElem?_eq_none (Nat.le_of_not_lt hi)]
  obtain ⟨a2, n2, c2, rfl⟩ := okWide_slice Yba.underlying23 (hval 2 23 v2 rfl rfl)
  have k2 := h2
  have lt2 : ∀ x ∈ p2, x.block < W.heap.size := by obtain ⟨m, hm⟩ := k2; exact DataW.trod_lt m _ _ _ hm
  obtain ⟨bs, w2⟩ : ∃ bs : Nat → Bool, (0 < n2 → ∃ b off, a2 = some ⟨b, off, none⟩ ∧ b < W.heap.size ∧ ∀ i, i < n2 → W.cell? ⟨b, off + i, none⟩ = some (.bool (bs i))) := by
    obtain ⟨fuel, hf⟩ := h2
    rcases Go.Deep.open_bools Yba.underlying23 Yba.underlying4 (by kernel_rfl) hf with ⟨hcs, _⟩ | ⟨x, l, c, Bf, hcs, _, hl, hm, _, hcell⟩
    · simp [Value.cells] at hcs
      obtain ⟨rfl, rfl, rfl⟩ := hcs
      exact ⟨fun _ => false, fun h => absurd h (by omega)⟩
    · simp [Value.cells] at hcs
      obtain ⟨rfl, rfl, rfl⟩ := hcs
      refine ⟨Bf, fun hn => ?_⟩
      obtain ⟨b, off, sp⟩ := x
      have hsp : sp = none := by simpa [Addr.add] using World.cell?_spot (hcell 0 (by omega))
      subst hsp
      refine ⟨b, off, rfl, ?_, fun i hi => ?_⟩
      · have := World.block_lt_of_cell? _ _ (hcell 0 (by omega)); simpa [Addr.add] using this
      · have := hcell i (by omega)
        rwa [Addr.add_lit] at this
  clear hA0 hval0
  refine (walk ex a1 n c1 a2 n2 c2 z bs W w1 hz w2).mono fun e W' ⟨he, bel⟩ => ?_
  subst he
  exact ⟨_, rfl, _, _, _, [], _, [], hW', trodAll_mk1 (shut_bool Yba.underlying4 _), (trodAll_cons_mk (shut_int Yba.underlying3 wx) (trodAll_cons_mk (Below.trod laidOut (by kernel_rfl) (of_decide_eq_true (by kernel_rfl)) k1 bel lt1) (trodAll_cons_mk (Below.trod laidOut (by kernel_rfl) (of_decide_eq_true (by kernel_rfl)) k2 bel lt2) trodAll_mk0))), rfl, bel.frame _, fun h => by cases h⟩

/-- THE STATEMENT -/
theorem proved : Rows.LawS6752BWholeSaid :=
  OpenClaim.holds_of_wide 3 Yba.f3 rfl rfl rfl rfl rfl rfl rfl ⟨rfl, rfl, rfl, rfl, rfl⟩ rfl rfl rfl rfl rfl (by kernel_rfl) Yba.func3 (by kernel_rfl)
    (of_decide_eq_true (by kernel_rfl)) (by unfold Func.isWrapper; first | (rw [if_pos (by decide +kernel)]; kernel_rfl) | (rw [if_neg (by decide +kernel)]; exact ⟨rfl, rfl⟩))
    (fun os started H enc _ => lifted os started H enc)
#print axioms proved
end Go.Proofs.Ybulkeius
