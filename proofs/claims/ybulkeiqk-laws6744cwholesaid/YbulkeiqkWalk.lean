import Derived.Test.YbulkeiqkRuns
import Derived.Maps.AppendAt
import Derived.WalkSmall
namespace Go.Proofs.Ybulkeiqk
open Go.ChangeShapes Go.WideShapes Go.ChangeAt Go.RowKit
set_option linter.unusedVariables false

theorem Yba.info22 : (Yba.prog.info? 22).map (fun i => (i.zero, i.size, i.bytes)) = some (some (.slice none 0 0), 1, 24) := by kernel_rfl

/-- 'make([]T, n)' at this program -/
theorem make24 (n : Nat) (hn : n ≤ 1000000) (W : World) : (Instr.makeSlice 24 (.int .i64 n) (.int .i64 n)).run Yba.prog W =
    .ok (.slice (some ⟨W.heap.size, 0, none⟩) n n) (W.alloc (.cells (madeCells #[.slice none 0 0] n) 22)) := by
  obtain ⟨i0, hi, hz0, hz1, hz2⟩ := info_parts Yba.info22
  have := run_make (P := Yba.prog) W 24 22 i0 (.slice none 0 0) Yba.underlying24 hi hz0 .i64 .i64 n n (by omega) (by omega) (by rw [hz2]; omega) (by omega)
  simpa [hz1, Value.cells] using this
theorem make22 (n : Nat) (hn : n ≤ 1000000) (W : World) : (Instr.makeSlice 22 (.int .i64 n) (.int .i64 n)).run Yba.prog W =
    .ok (.slice (some ⟨W.heap.size, 0, none⟩) n n) (W.alloc (.cells (madeCells #[.int .u32 0] n) 23)) := by
  obtain ⟨i0, hi, hz0, hz1, hz2⟩ := info_parts Yba.info23
  have := run_make (P := Yba.prog) W 22 23 i0 (.int .u32 0) Yba.underlying22 hi hz0 .i64 .i64 n n (by omega) (by omega) (by rw [hz2]; omega) (by omega)
  simpa [hz1, Value.cells] using this
theorem make26 (n : Nat) (hn : n ≤ 1000000) (W : World) : (Instr.makeSlice 26 (.int .i64 n) (.int .i64 n)).run Yba.prog W =
    .ok (.slice (some ⟨W.heap.size, 0, none⟩) n n) (W.alloc (.cells (madeCells #[.int .i64 0] n) 3)) := by
  obtain ⟨i0, hi, hz0, hz1, hz2⟩ := info_parts Yba.info3
  have := run_make (P := Yba.prog) W 26 3 i0 (.int .i64 0) Yba.underlying26 hi hz0 .i64 .i64 n n (by omega) (by omega) (by rw [hz2]; omega) (by omega)
  simpa [hz1, Value.cells] using this

theorem rowAt_made (w : World) (n : Nat) : RowAt (w.alloc (.cells (madeCells #[.int .u32 0] n) 23)) .u32 w.heap.size 0 n (List.replicate n 0) := by
  intro i hi
  rw [World.cell?_alloc_at _ _ _ _ rfl, Nat.zero_add, madeCells_one_get _ _ _ hi]
  simp [List.getD, hi]

theorem RowAt.set {w : World} {g n J : Nat} {L : List Int} {v : Int} {k : IntKind} (h : RowAt w k g 0 n L) (hJ : J < n) (hL : L.length = n) : RowAt (w.setCell ⟨g, J, none⟩ (.int k v)) k g 0 n (L.set J v) := by
  intro i hi
  have h' := h i hi
  rw [Nat.zero_add] at h' ⊢
  by_cases e : i = J
  · subst e
    rw [World.cell?_setCell_same _ _ _ h']
    simp [List.getD, hL, hi]
  · rw [World.cell?_setCell_other _ _ _ _ (fun h => e (by simpa using (congrArg Addr.off h).symm)), h']
    simp [List.getD, show ¬ J = i by omega]

set_option maxRecDepth 100000 in
set_option maxHeartbeats 1000000 in
theorem walk_main (a0 : Option Addr) (n cap0 : Nat) (z0 : List Int) (a1 : Option Addr) (len1 cap1 : Nat) (z1 : List Int) (q : Int) (w : World)
    (w0 : 0 < n → ∃ b off, a0 = some ⟨b, off, none⟩ ∧ b < w.heap.size ∧ RowAt w .u32 b off n z0) (hwf : ∀ i, 0 ≤ z0.getD i 0)
    (w1 : ∀ wr, Below w.heap.size w wr → IsRow .u32 wr a1 len1 cap1 z1) (w2 : 0 ≤ q) (hn : n ≤ 4096) (hl1 : len1 ≤ 1048576) :
    Calls Yba.prog 3 #[.slice a0 n cap0, .slice a1 len1 cap1, .int .u32 q] w fun e w' => e = .returned (.bool true) ∧ Below w.heap.size w w' := by
  have t1 : decide ((4096 : Int) < (n : Int)) = false := by simp; omega
  have t2 : decide ((1048576 : Int) < (len1 : Int)) = false := by simp; omega
  have hmk := make24 (n + 1) (by omega)
  rw [show ((n + 1 : Nat) : Int) = (n : Int) + 1 by omega] at hmk
  go_enter Yba.func3, Yba.ntmps3
  go_wp2
  clear hmk t1 t2
  go_loopw [9, 10] (fun k i wr => ∃ (M : List (List Int)) (K : Nat), M.length ≤ n ∧ K ≤ 14 * M.length ∧ k = .int .i64 K ∧ i = .int .i64 ((M.length : Int) + 1) ∧ ModelIn w w.heap.size n M wr) (fun _ i _ => n + 1 - (intOf i).toNat)
  case atStart => exact ⟨[], 0, by simp, by simp, rfl, rfl, modelIn_start w n⟩
  case round =>
    obtain ⟨M, K, hM, hK, rfl, rfl, hmod⟩ := hrel
    by_cases hlt : M.length < n
    · obtain ⟨b, off, ha0, hbw, hrow0⟩ := w0 (by omega)
      subst ha0
      obtain ⟨x, hx⟩ : ∃ x, x = z0.getD M.length 0 := ⟨_, rfl⟩
      have hx0 : 0 ≤ x := by rw [hx]; exact hwf _
      have hcx : wr.cell? ⟨b, off + M.length, none⟩ = some (.int .u32 x) := by
        rw [hmod.below.cell (p := ⟨b, off + M.length, none⟩) hbw, hrow0 M.length hlt, hx]
      clear hx hrow0 w0
      obtain ⟨c, hc⟩ : ∃ c : Nat, x % 8 = c := ⟨(x % 8).toNat, by omega⟩
      have hc7 : c ≤ 7 := by omega
      have hmk := make22 (2 * c) (by omega)
      have hdec : decide ((M.length : Int) + 1 ≤ (n : Int)) = true := by simp; omega
      rw [show ((2 * c : Nat) : Int) = 2 * (c : Int) by omega] at hmk
      go_wp2
      obtain ⟨wo, rfl⟩ : ∃ wo : World, wo = wr := ⟨_, rfl⟩
      simp only [hc]
      clear hmk hcx hc
      go_loopw [9, 13] (fun k j wi => ∃ (J : Nat) (L : List Int), J ≤ 2 * c ∧ j = .int .i64 J ∧ k = .int .i64 ((K + J : Nat) : Int) ∧ L.length = 2 * c ∧ wi.heap.size = wo.heap.size + 1 ∧ RowAt wi .u32 wo.heap.size 0 (2 * c) L ∧ (∀ o, wi.frozen? ⟨wo.heap.size, o, none⟩ = false) ∧ Below wo.heap.size wo wi) (fun _ j _ => 2 * c - (intOf j).toNat)
      case atStart => exact ⟨0, List.replicate (2 * c) 0, by omega, rfl, rfl, by simp, by simp, rowAt_made wo (2 * c), fun o => World.frozen?_alloc_at _ _ _ _ rfl, (Below.refl _ _).alloc (Nat.le_refl _) _⟩
      case round =>
        obtain ⟨J, L, hJ, rfl, rfl, hL, hsz, hrow, hfz, hbel⟩ := hrel
        by_cases hj : J < 2 * c
        · have hcell : wr.cell? ⟨wo.heap.size, J, none⟩ = some (.int .u32 (L.getD J 0)) := by simpa using hrow J hj
          have hfJ := hfz J
          have hval := val_any (w1 wr (hmod.below.trans (hbel.mono (by have := hmod.size; omega)))) hl1 (K + J) (by omega)
          have Hval := hval
          clear hval
          go_wp2_with fail
          refine Hval.mono ?_
          rintro e w' ⟨⟨v, rfl⟩, rfl⟩
          go_wp2
          go_roundw
          case rel =>
            exact ⟨J + 1, L.set J v, by omega, by go_num, by go_num, by simp [hL], by simp [World.setCell, hsz], hrow.set hj hL, fun o => by rw [World.frozen?_setCell]; exact hfz o, hbel.setCell (Nat.le_refl _) _⟩
          case measure => simp [intOf]; omega
        · have hB : wr.cell? ⟨w.heap.size, M.length + 1, none⟩ = some (.slice none 0 0) := by
            rw [hbel.cell (p := ⟨w.heap.size, M.length + 1, none⟩) (by show w.heap.size < _; have := hmod.size; omega), hmod.hd _ (by omega)]
            simp [cellOf]
          have hBf : wr.frozen? ⟨w.heap.size, M.length + 1, none⟩ = false := by
            rw [hbel.frozen (p := ⟨w.heap.size, M.length + 1, none⟩) (by show w.heap.size < _; have := hmod.size; omega)]
            exact hmod.hf _
          go_wp2
          go_roundw
          case rel => exact ⟨M ++ [L], K + J, by simp; omega, by simp; omega, by go_num, by simp, hmod.step hlt hc7 hL hsz (by rw [hL]; exact hrow) hbel⟩
          case measure => simp [intOf]; omega
    · have hMn : M.length = n := by omega
      have hmk := make26 (n + 1) (by omega)
      rw [show ((n + 1 : Nat) : Int) = (n : Int) + 1 by omega] at hmk
      have HMn : Hid (M.length = n) := hMn
      clear hMn
      go_wp2
      obtain ⟨wm, rfl⟩ : ∃ wm : World, wm = wr := ⟨_, rfl⟩
      clear hmk w0 hwf w1 hl1 hlt hK hM
      go_loopw [14, 16] (fun v i wr => ∃ m : Nat, m ≤ n ∧ i = .int .i64 ((m : Int) + 1) ∧ Runs wm wm.heap.size M n m v wr) (fun _ i _ => n + 1 - (intOf i).toNat)
      case atStart => exact ⟨0, by omega, rfl, runs_start wm M n hn⟩
      case round =>
        obtain ⟨m, hm, rfl, hruns⟩ := hrel
        by_cases hlt : m < n
        · obtain ⟨L, hL⟩ : ∃ L, M[m]? = some L := ⟨_, List.getElem?_eq_getElem (by have := HMn.out; omega)⟩
          obtain ⟨c, hc7, hLc⟩ := hmod.even L (List.mem_of_getElem? hL)
          have hcM : wr.cell? ⟨w.heap.size, m + 1, none⟩ = some (.slice (some ⟨w.heap.size + 1 + m, 0, none⟩) (2 * c) (2 * c)) := by
            rw [hruns.below.cell (p := ⟨w.heap.size, m + 1, none⟩) (by show w.heap.size < _; have := hmod.size; omega), hmod.hd _ (by omega)]
            simp [cellOf, hL, hLc]
          have hlen : (flat (M.take m)).length ≤ 61440 := by
            have h1 := flat_len (M.take m) (fun L' h' => by obtain ⟨c', h7, e⟩ := hmod.even L' (List.mem_of_mem_take h'); omega)
            have h2 := List.length_take_le m M
            omega
          have hdec : decide ((m : Int) + 1 ≤ (n : Int)) = true := by simp; omega
          obtain ⟨i0, hi, hz0, hz1, hz2⟩ := info_parts Yba.info23
          go_wp2_with (at_builtin; refine wpList_append_own _ rfl (.tmp 78) (.tmp 86) 22 rfl wm.heap.size 23 i0 (.int .u32 0) 1 4 Yba.underlying22 hi hz0 hz1 hz2 rfl (by decide) u14 _ _ rfl (hruns.own.alloc _) ⟨wr.heap.size, 0, none⟩ 1 1 [.int .u32 (c : Int)] rfl rfl (cell_one_new _ _ _) (ints_oneCell .u32 [(c : Int)]) ?h1 ?h2 ?h3 ?_)
          case h1 => unfold maxLen; omega
          case h2 => omega
          case h3 => have := hruns.size; simp; omega
          intro v1 w1 hown1 hgrow1 hnn1
          obtain ⟨hra1, hb1, hs1, hne1⟩ := hruns.mid (Nat.le_refl _) hown1 hgrow1
          obtain ⟨g1, cap1', hv1, _⟩ : ∃ g cap : Nat, v1 = .slice (some ⟨g, 0, none⟩) ((flat (M.take m)).length + 1) cap ∧ True := by
            obtain ⟨_, ⟨h, _⟩ | ⟨g, cap, cur, h, _⟩⟩ := hown1
            · exact absurd h hnn1
            · exact ⟨g, cap, h, trivial⟩
          have hcA : w1.cell? ⟨wm.heap.size + 1, m + 1, none⟩ = some (.int .i64 ((ats M n m).getD (m + 1) 0)) := by
            rw [hra1.cellAt (m + 1) (by omega)]
            simp [List.getD, ats_len, show m + 1 < n + 1 by omega]
          have hfA : w1.frozen? ⟨wm.heap.size + 1, m + 1, none⟩ = false := hra1.frozenAt _
          have hcM1 : ∀ u, (w1.setCell ⟨wm.heap.size + 1, m + 1, none⟩ u).cell? ⟨w.heap.size, m + 1, none⟩ = some (.slice (some ⟨w.heap.size + 1 + m, 0, none⟩) (2 * c) (2 * c)) := by
            intro u
            rw [World.cell?_setCell_other _ _ _ _ (fun h => by have h1 := congrArg Addr.block h; have h2 := hmod.size; simp at h1; omega), hb1.cell (p := ⟨w.heap.size, m + 1, none⟩) (by show w.heap.size < _; have := hmod.size; omega), hmod.hd _ (by omega)]
            simp [cellOf, hL, hLc]
          have hrowL : ∀ u, RowAt (w1.setCell ⟨wm.heap.size + 1, m + 1, none⟩ u) .u32 (w.heap.size + 1 + m) 0 (2 * c) L := by
            intro u i hi
            rw [World.cell?_setCell_other _ _ _ _ (fun h => by have h1 := congrArg Addr.block h; have h2 := hmod.size; have h3 := HMn.out; simp at h1; omega), hb1.cell (p := ⟨w.heap.size + 1 + m, 0 + i, none⟩) (by show w.heap.size + 1 + m < _; have := hmod.size; have := HMn.out; omega)]
            exact hmod.rows m L hL i (by omega)
          have hown1' : ∀ u, (w1.setCell ⟨wm.heap.size + 1, m + 1, none⟩ u).ownsRow wm.heap.size 23 1 v1 ((flat (M.take m)).length + 1) ((flat (M.take m)).map (Value.int .u32) ++ [.int .u32 (c : Int)]) := fun u => ownsRow_setCell_other hown1 hne1 u
          clear hcM
          rw [hv1]
          rw [hv1] at hown1'
          go_wp2_with (at_builtin; refine wpList_append_own _ rfl (.tmp 93) (.tmp 97) 22 rfl wm.heap.size 23 i0 (.int .u32 0) 1 4 Yba.underlying22 hi hz0 hz1 hz2 rfl (by decide) (.slice (some ⟨g1, 0, none⟩) ((flat (M.take m)).length + 1) cap1') _ _ rfl (hown1' _) ⟨w.heap.size + 1 + m, 0, none⟩ (2 * c) (2 * c) (L.map (Value.int .u32)) rfl (by simp [hLc]) ((hrowL _).news hLc) (ints_oneCell .u32 L) ?h4 ?h5 ?h6 ?_)
          case h4 => unfold maxLen; omega
          case h5 => omega
          case h6 => simp [World.setCell]; omega
          intro v2 w3 hown2 hgrow2 hnn2
          rw [← hv1] at hgrow2
          have R := hruns.step (Nat.le_refl _) hlt hL hLc hown1 hgrow1 (by simpa using hown2) hgrow2 hnn2
          clear hown2 hgrow2 hnn2 hv1 hown1' hrowL hcM1 hfA hcA hne1 hs1 hb1 hra1 hown1 hgrow1 hnn1
          go_wp2
          go_roundw
          case rel => exact ⟨m + 1, by omega, by go_num, R⟩
          case measure => simp [intOf]; omega
        · have hmn : m = n := by omega
          subst hmn
          obtain ⟨g, cap, hv, hg1, hg2, hNc, hrowR⟩ := rowAt_of_owns hruns.own hruns.nn
          have etake : M.take m = M := by rw [← HMn.out]; exact List.take_length
          rw [etake] at hv hrowR hNc
          have hfrR : ∀ j, wr.frozen? ⟨g, j, none⟩ = false := by
            have h := hruns.own
            rw [hv, etake] at h
            exact h.frozenAt
          have hrowA : RowAt wr .i64 (wm.heap.size + 1) 0 (m + 1) (ats M m m) := by
            intro i hi
            rw [Nat.zero_add, hruns.ra.cellAt i (by omega)]
            simp [List.getD, ats_len, hi]
          have hNb : (flat M).length ≤ 61440 := by
            have h1 := flat_len M (fun L' h' => by obtain ⟨c', h7, e⟩ := hmod.even L' h'; omega)
            have h2 := HMn.out
            omega
          have hbel := hruns.below
          have hsz := hruns.size
          clear hruns etake
          obtain ⟨N, hN⟩ : ∃ N, N = (flat M).length := ⟨_, rfl⟩
          rw [← hN] at hv hNc hrowR hNb
          have HN : Hid (N = (flat M).length) := hN
          clear hN
          rw [hv]
          clear hv
          go_wp2_with fail
          refine (clone5 g N cap (flat M) wr (by omega) HN.out.symm hrowR).mono ?_
          rintro e w1 ⟨⟨g5, cap5, rfl, hg5, hg5', hrow5⟩, hb5⟩
          go_wp2_with fail
          refine (clone6 (wm.heap.size + 1) (m + 1) (m + 1) (ats M m m) w1 (by omega) (ats_len _ _ _) (hrowA.below hb5 (by omega))).mono ?_
          rintro e w2 ⟨⟨g6, cap6, rfl, hg6, hg6', hrow6⟩, hb6⟩
          go_wp2_with fail
          obtain ⟨Qn, hQ⟩ : ∃ Qn : Nat, q % ((m : Int) + 1) = Qn := ⟨(q % ((m : Int) + 1)).toNat, by have := Int.emod_nonneg q (show (m : Int) + 1 ≠ 0 by omega); omega⟩
          have hQm : Qn ≤ m := by have := Int.emod_lt_of_pos q (show (0 : Int) < (m : Int) + 1 by omega); omega
          simp only [hQ]
          clear hQ
          obtain ⟨W, hW⟩ : ∃ W, W = w2.alloc (Obj.cells #[Value.pointer none, Value.pointer none, Value.slice none 0 0, Value.slice none 0 0, Value.slice none 0 0, Value.slice none 0 0, Value.slice (some ⟨g, 0, none⟩) N cap, Value.slice (some ⟨wm.heap.size + 1, 0, none⟩) (m + 1) (m + 1)] 33) := ⟨_, rfl⟩
          rw [← hW]
          have c6 : W.cell? ⟨w2.heap.size, 6, none⟩ = some (.slice (some ⟨g, 0, none⟩) N cap) := by rw [hW, World.cell?_alloc_at _ _ _ _ rfl]; rfl
          have c7 : W.cell? ⟨w2.heap.size, 7, none⟩ = some (.slice (some ⟨wm.heap.size + 1, 0, none⟩) (m + 1) (m + 1)) := by rw [hW, World.cell?_alloc_at _ _ _ _ rfl]; rfl
          have hb2 : Below w2.heap.size w2 W := by rw [hW]; exact (Below.refl _ _).alloc (Nat.le_refl _) _
          clear hW
          have s5 := hb5.size
          have s6 := hb6.size
          have hmsz := hmod.size
          have hb1 : Below wr.heap.size wr W := (hb5.trans (hb6.mono s5)).trans (hb2.mono (by omega))
          have hbw : Below w.heap.size w W := (hmod.below.trans (hbel.mono (by omega))).trans (hb1.mono (by omega))
          have r0 : RowAt W .u32 g 0 N (flat M) := hrowR.below hb1 hg2
          have rA : RowAt W .i64 (wm.heap.size + 1) 0 (m + 1) (ats M m m) := hrowA.below hb1 (by omega)
          have r5 : RowAt W .u32 g5 0 N (flat M) := (hrow5.below hb6 (by omega)).below hb2 (by omega)
          have r6 : RowAt W .i64 g6 0 (m + 1) (ats M m m) := hrow6.below hb2 (by omega)
          have fR : ∀ j, W.frozen? ⟨g, j, none⟩ = false := fun j => by rw [hb1.frozen (p := ⟨g, j, none⟩) hg2]; exact hfrR j
          have hbm : Below wm.heap.size wm W := hbel.trans (hb1.mono (by omega))
          have HMS : Hid (wm.heap.size = w.heap.size + 1 + M.length) := hmsz
          clear hrowR hrowA hrow5 hrow6 hfrR hb2 hb5 hb6 hb1 hg5' hg6' hmsz
          by_cases hQ0 : Qn = 0
          · subst hQ0
            have hnil := fun (W : World) => Lib.run_eql_slice_nil (P := Yba.prog) W 22 23 none 0 0 0 0 Yba.underlying22
            refine (worked_zero _ _).mono ?_
            rintro e w' ⟨rfl, rfl⟩
            go_wp2_with fail
            refine (eq8_any _ _ N cap cap5 (flat M) _ (by omega) (fun _ => ⟨g, 0, rfl, r0⟩) (fun _ => ⟨g5, 0, rfl, r5⟩)).mono ?_
            rintro e w' ⟨rfl, q1, rfl⟩
            go_wp2_with fail
            refine (eq9_any _ _ (m + 1) (m + 1) cap6 (ats M m m) _ (by omega) (fun _ => ⟨wm.heap.size + 1, 0, rfl, rA.drewN _⟩) (fun _ => ⟨g6, 0, rfl, r6.drewN _⟩)).mono ?_
            rintro e w'' ⟨rfl, q2, rfl⟩
            go_wp2
            go_ret
            exact ⟨rfl, below_drewN hbw _⟩
          · obtain ⟨t, rfl⟩ : ∃ t, Qn = t + 1 := ⟨Qn - 1, by omega⟩
            obtain ⟨L, hL⟩ : ∃ L, M[t]? = some L := ⟨_, List.getElem?_eq_getElem (by have := HMn.out; omega)⟩
            obtain ⟨c, hc7, hLc⟩ := hmod.even L (List.mem_of_getElem? hL)
            obtain ⟨f1, f2, f3⟩ := flat_at M t L hL
            obtain ⟨a, ha⟩ : ∃ a, a = (flat (M.take t)).length := ⟨_, rfl⟩
            rw [← ha] at f1 f2 f3
            rw [← HN.out] at f3
            have hat : W.cell? ⟨wm.heap.size + 1, t + 1, none⟩ = some (.int .i64 ((a + 1 : Nat) : Int)) := by
              have h := rA (t + 1) (by omega)
              rw [Nat.zero_add, ats_get _ _ _ _ (by omega), if_pos (by omega)] at h
              simpa [atOf, ← ha] using h
            have hcc : W.cell? ⟨g, a, none⟩ = some (.int .u32 (c : Int)) := by
              have h := r0 a (by omega)
              rw [Nat.zero_add, f1, hLc] at h
              rw [h]; congr 2; omega
            have hcM : W.cell? ⟨w.heap.size, t + 1, none⟩ = some (.slice (some ⟨w.heap.size + 1 + t, 0, none⟩) (2 * c) (2 * c)) := by
              rw [hbm.cell (p := ⟨w.heap.size, t + 1, none⟩) (by show w.heap.size < _; have := HMS.out; omega), hmod.hd _ (by omega)]
              simp [cellOf, hL, hLc]
            have rL : RowAt W .u32 (w.heap.size + 1 + t) 0 (2 * c) L := by
              have h := (hmod.rows t L hL).below hbm (by have := HMS.out; have := HMn.out; omega)
              rwa [hLc] at h
            have rG : RowAt W .u32 g (a + 1) (2 * c) L := by
              intro i hi
              have h := r0 (a + 1 + i) (by omega)
              rw [Nat.zero_add, f2 i (by omega)] at h
              exact h
            clear ha f1 f2
            refine (worked_pos w2.heap.size g N cap (wm.heap.size + 1) (m + 1) (m + 1) a c (t + 1) W c6 c7 (by omega) (by omega) (by omega) hat hcc hc7 (by omega) hNc (by omega)).mono ?_
            rintro e w' ⟨⟨ao, rfl, hao⟩, q1, rfl⟩
            go_wp2_with fail
            refine (eq8_any _ _ N cap cap5 (flat M) _ (by omega) (fun _ => ⟨g, 0, rfl, r0.drewN _⟩) (fun _ => ⟨g5, 0, rfl, r5.drewN _⟩)).mono ?_
            rintro e w' ⟨rfl, q2, rfl⟩
            go_wp2_with fail
            refine (eq9_any _ _ (m + 1) (m + 1) cap6 (ats M m m) _ (by omega) (fun _ => ⟨wm.heap.size + 1, 0, rfl, rA.drewN _⟩) (fun _ => ⟨g6, 0, rfl, r6.drewN _⟩)).mono ?_
            rintro e w'' ⟨rfl, q3, rfl⟩
            go_wp2_with fail
            refine (eq8_any _ _ (2 * c) _ _ L _ (by omega) (fun h => ⟨g, a + 1, hao (by omega), rG.drewN _⟩) (fun _ => ⟨w.heap.size + 1 + t, 0, rfl, rL.drewN _⟩)).mono ?_
            rintro e w'' ⟨rfl, q4, rfl⟩
            by_cases hc0 : c = 0
            · subst hc0
              go_wp2
              go_ret
              exact ⟨rfl, below_drewN hbw _⟩
            · have hpos : 0 < 2 * c := by omega
              rw [hao (by omega)]
              have hg0 : W.cell? ⟨g, a + 1, none⟩ = some (.int .u32 (L.getD 0 0)) := by simpa using rG 0 hpos
              have hfg := fR (a + 1)
              have k6 : ∀ k u, ((W.drewN k).setCell ⟨g, a + 1, none⟩ u).cell? ⟨w2.heap.size, 6, none⟩ = some (.slice (some ⟨g, 0, none⟩) N cap) := fun k u => by
                rw [World.cell?_setCell_other _ _ _ _ (fun h => by have h1 := congrArg Addr.block h; simp at h1; omega)]; exact c6
              have kg : ∀ k u, ((W.drewN k).setCell ⟨g, a + 1, none⟩ u).cell? ⟨g, a + 1, none⟩ = some u := fun k u => World.cell?_setCell_same _ _ _ hg0
              go_wp2
              go_quiet (fail)
              go_wp2
              go_ret
              exact ⟨rfl, below_drewN ((below_drewN hbw _).setCell (p := ⟨g, a + 1, none⟩) (by show w.heap.size ≤ g; have := HMS.out; omega) _) _⟩
end Go.Proofs.Ybulkeiqk
