import Derived.Test.YbulkeiusRowsFn
import Derived.Lib.Builder
namespace Go.Proofs.Ybulkeius
open Go.RowKit
set_option linter.unusedVariables false

theorem Yba.size31 : (Yba.prog.info? 31).map (·.size) = some 3 := by kernel_rfl

set_option maxRecDepth 100000 in
set_option maxHeartbeats 2000000 in
theorem walk_pos (ex : Int) (a0 : Option Addr) (n c0 : Nat) (a1 : Option Addr) (n1 c1 : Nat) (z : List Int) (bs : Nat → Bool) (w : World) (hn : n ≤ 65536) (hn0 : 0 < n) (h0 : 0 ≤ ex)
    (w0 : 0 < n → ∃ b off, a0 = some ⟨b, off, none⟩ ∧ b < w.heap.size ∧ ∀ i, i < n → w.cell? ⟨b, off + i, none⟩ = some (.int .u16 (z.getD i 0))) (hz : ∀ i, 0 ≤ z.getD i 0 ∧ z.getD i 0 ≤ 65535)
    (w1 : 0 < n1 → ∃ b off, a1 = some ⟨b, off, none⟩ ∧ b < w.heap.size ∧ ∀ i, i < n1 → w.cell? ⟨b, off + i, none⟩ = some (.bool (bs i))) :
    Calls Yba.prog 3 #[.int .i64 ex, .slice a0 n c0, .slice a1 n1 c1] w fun e w' => e = .returned (.bool true) ∧ Below w.heap.size w w' := by
  have t1 : decide ((65536 : Int) < (n : Int)) = false := by simp; omega
  go_enter Yba.func3, Yba.ntmps3
  go_wp2
  go_loop [7, 25] (fun tot i => ∃ (k : Nat) (T : Int), k ≤ n ∧ 0 ≤ T ∧ T ≤ 65535 * k ∧ i = .int .i64 k ∧ tot = .int .i64 T) (fun _ i => n - (intOf i).toNat)
  case atStart => exact ⟨0, 0, by omega, by omega, by omega, rfl, rfl⟩
  case round =>
    obtain ⟨k, T, hk, hT0, hT, rfl, rfl⟩ := hrel
    by_cases hlt : k < n
    · obtain ⟨b, off, ha0, hbw, hc⟩ := w0 (by omega)
      subst ha0
      have hcx := hc k hlt
      have hzk := hz k
      obtain ⟨x, hx⟩ : ∃ x, x = z.getD k 0 := ⟨_, rfl⟩
      rw [← hx] at hcx hzk
      obtain ⟨hx0, hx1⟩ := hzk
      clear hx hc w0 w1 hz
      go_wp2
      go_round
      case rel => exact ⟨k + 1, T + x, by omega, by omega, by omega, by go_num, rfl⟩
      case measure => simp [intOf]; omega
    · by_cases hbig : 1048576 < T
      · have t2 : decide ((1048576 : Int) < T) = true := by simp; omega
        go_wp2
        go_ret
        exact ⟨rfl, Below.refl _ _⟩
      · have t2 : decide ((1048576 : Int) < T) = false := by simp; omega
        have t3 : decide (0 ≤ ex) = true := by simp; omega
        have t4 : ((n : Int) == 0) = false := by simp; omega
        have hm25 := make25 n hn
        have hm26 := make26 n hn
        go_wp2
        obtain ⟨E, hE⟩ : ∃ E, ex % (n : Int) = E := ⟨_, rfl⟩
        have hEb : E < 0 ∨ 0 ≤ E ∧ E < n := by
          have h1 := Int.emod_nonneg ex (show (n : Int) ≠ 0 by omega)
          have h2 := Int.emod_lt_of_pos ex (show (0 : Int) < (n : Int) by omega)
          omega
        simp only [hE]
        clear hE
        clear hm25 hm26 hT hT0 hbig t1 t2
        go_loopw [54] (fun i wr => ∃ (P : List (Option Nat)), P.length ≤ n ∧ i = .int .i64 P.length ∧ Lists w w.heap.size n z P wr ∧ ∀ j : Nat, (j : Int) = E → j < P.length → ∃ L, P[j]? = some (some L)) (fun i _ => n - (intOf i).toNat)
        case atStart => exact ⟨[], by simp, rfl, lists_start w n z, fun j _ h => by simp at h⟩
        case round =>
          obtain ⟨P, hP, rfl, hl, hexp⟩ := hrel
          by_cases hlt : P.length < n
          · obtain ⟨b, off, ha0, hbw, hc⟩ := w0 (by omega)
            subst ha0
            have hcx : wr.cell? ⟨b, off + P.length, none⟩ = some (.int .u16 (z.getD P.length 0)) := by
              rw [hl.below.cell (p := ⟨b, off + P.length, none⟩) hbw]; exact hc _ hlt
            obtain ⟨s, hs⟩ : ∃ s : Nat, z.getD P.length 0 = s := ⟨(z.getD P.length 0).toNat, by have := hz P.length; omega⟩
            have hs1 : s ≤ 65535 := by have := hz P.length; omega
            rw [hs] at hcx
            have HS : Hid (z.getD P.length 0 = s) := hs
            clear hs hc hz w0
            by_cases hskip : (P.length : Int) ≠ E ∧ P.length < n1 ∧ bs P.length = true
            · obtain ⟨k1, k2, k3⟩ := hskip
              have q1 : ((P.length : Int) != E) = true := by simp [bne_iff_ne]; exact k1
              have q2 : decide ((P.length : Int) < (n1 : Int)) = true := by simp; omega
              obtain ⟨b1, off1, ha1, hbw1, hc1⟩ := w1 (by omega)
              subst ha1
              have hcb : wr.cell? ⟨b1, off1 + P.length, none⟩ = some (.bool true) := by
                rw [hl.below.cell (p := ⟨b1, off1 + P.length, none⟩) hbw1, hc1 _ k2, k3]
              clear hc1 k1 k3 w1
              go_wp2
              go_roundw
              case rel => exact ⟨P ++ [none], by simp; omega, by simp, hl.skip, fun j hj hjl => by
                by_cases e : j < P.length
                · obtain ⟨L, hL⟩ := hexp j hj e; exact ⟨L, by rw [List.getElem?_append_left e]; exact hL⟩
                · have e2 : j = P.length := by simp at hjl; omega
                  subst e2; simp [hj] at q1⟩
              case measure => simp [intOf]; omega
            · have hm28 := make28 s (by omega)
              obtain ⟨l0, lf0, c0', c1', c2', c3', c4', c5', c6', pf⟩ := hl.later hlt
              have fin : ∀ o1 : Obj, ∃ P', P'.length ≤ n ∧ Value.int .i64 ((P.length : Int) + 1) = .int .i64 P'.length ∧ Lists w w.heap.size n z P' ((((wr.alloc o1).alloc (.cells #[.string { data := #[108] }, .slice (some ⟨wr.heap.size, 0, none⟩) s s, .map none] 31)).setCell ⟨w.heap.size + 1, P.length, none⟩ (.pointer (some ⟨wr.heap.size + 1, 0, none⟩))).setCells w.heap.size (P.length * 7) (pairCells ⟨wr.heap.size + 1, 0, none⟩)) ∧ ∀ j : Nat, (j : Int) = E → j < P'.length → ∃ L, P'[j]? = some (some L) := fun o1 =>
                ⟨P ++ [some (wr.heap.size + 1)], by simp; omega, by simp, hl.step hlt HS.out o1 _ _ _ _, fun j hj hjl => by
                  by_cases e : j < P.length
                  · obtain ⟨L, hL⟩ := hexp j hj e; exact ⟨L, by rw [List.getElem?_append_left e]; exact hL⟩
                  · have e2 : j = P.length := by simp at hjl; omega
                    subst e2; exact ⟨wr.heap.size + 1, by simp⟩⟩
              have FIN : Hid (∀ o1 : Obj, ∃ P' : List (Option Nat), P'.length ≤ n ∧ Value.int .i64 ((P.length : Int) + 1) = .int .i64 P'.length ∧ Lists w w.heap.size n z P' ((((wr.alloc o1).alloc (.cells #[.string { data := #[108] }, .slice (some ⟨wr.heap.size, 0, none⟩) s s, .map none] 31)).setCell ⟨w.heap.size + 1, P.length, none⟩ (.pointer (some ⟨wr.heap.size + 1, 0, none⟩))).setCells w.heap.size (P.length * 7) (pairCells ⟨wr.heap.size + 1, 0, none⟩)) ∧ ∀ j : Nat, (j : Int) = E → j < P'.length → ∃ L, P'[j]? = some (some L)) := fin
              clear fin hexp
              by_cases k1 : (P.length : Int) = E
              · have q1 : ((P.length : Int) != E) = false := by simp [k1]
                clear k1 hskip w1
                go_wp2
                go_roundw
                case rel => exact FIN.out _
                case measure => simp [intOf]; omega
              · have q1 : ((P.length : Int) != E) = true := by simp [bne_iff_ne]; exact k1
                by_cases k2 : P.length < n1
                · have q2 : decide ((P.length : Int) < (n1 : Int)) = true := by simp; omega
                  have k3 : bs P.length = false := by cases h : bs P.length <;> simp_all
                  obtain ⟨b1, off1, ha1, hbw1, hc1⟩ := w1 (by omega)
                  subst ha1
                  have hcb : wr.cell? ⟨b1, off1 + P.length, none⟩ = some (.bool false) := by
                    rw [hl.below.cell (p := ⟨b1, off1 + P.length, none⟩) hbw1, hc1 _ k2, k3]
                  clear hc1 k1 k3 hskip w1
                  go_wp2
                  go_roundw
                  case rel => exact FIN.out _
                  case measure => simp [intOf]; omega
                · have q2 : decide ((P.length : Int) < (n1 : Int)) = false := by simp; omega
                  clear k1 hskip w1
                  go_wp2
                  go_roundw
                  case rel => exact FIN.out _
                  case measure => simp [intOf]; omega
          · have hPn : P.length = n := by omega
            have HP : Hid (P.length = n) := hPn
            clear hPn w1
            go_wp2_with fail
            obtain ⟨W, hW⟩ : ∃ W, W = wr.alloc (Obj.cells #[Value.slice (some ⟨w.heap.size, 0, none⟩) n n, Value.int IntKind.i64 E, Value.pointer none, Value.int IntKind.i64 0, Value.int IntKind.i64 1, Value.pointer none] 42) := ⟨_, rfl⟩
            rw [← hW]
            have T0 : W.cell? ⟨wr.heap.size, 0, none⟩ = some (.slice (some ⟨w.heap.size, 0, none⟩) n n) := by rw [hW, World.cell?_alloc_at _ _ _ _ rfl]; rfl
            have T1 : W.cell? ⟨wr.heap.size, 1, none⟩ = some (.int .i64 E) := by rw [hW, World.cell?_alloc_at _ _ _ _ rfl]; rfl
            have T4 : W.cell? ⟨wr.heap.size, 4, none⟩ = some (.int .i64 1) := by rw [hW, World.cell?_alloc_at _ _ _ _ rfl]; rfl
            have hlW : Lists w w.heap.size n z P W := by rw [hW]; exact hl.alloc _
            clear hW hl
            have e0 : ((n : Int) != (n : Int)) = false := by simp
            have e1 : (E != E) = false := by simp
            by_cases hEn : E < 0
            · have t5 : decide (0 ≤ E) = false := by simp; omega
              refine (rows_neg wr.heap.size E hEn W T1).mono ?_
              rintro e w' ⟨rfl, q1, rfl⟩
              go_wp2
              go_loopw [19] (fun i wx => ∃ k q : Nat, k ≤ n ∧ i = .int .i64 k ∧ wx = W.drewN q) (fun i _ => n - (intOf i).toNat)
              case atStart => exact ⟨0, _, by omega, rfl, rfl⟩
              case round =>
                obtain ⟨k3, q, hk3, rfl, rfl⟩ := hrel
                by_cases hlt3 : k3 < n
                · have d1 := hlW.pc k3 hlt3 3 (by omega)
                  simp only [if_true] at d1
                  have d2 := hlW.lc k3 hlt3
                  obtain ⟨o3, ho3⟩ : ∃ o3, P[k3]? = some o3 := ⟨_, List.getElem?_eq_getElem (by have := HP.out; omega)⟩
                  cases o3 with
                  | none =>
                    rw [show ptrOf P k3 = none by simp [ptrOf, ho3]] at d1 d2
                    go_wp2
                    go_quiet (fail)
                    go_wp2
                    go_quiet (fail)
                    go_wp2
                    go_roundw
                    case rel => exact ⟨k3 + 1, _, by omega, by go_num, rfl⟩
                    case measure => simp [intOf]; omega
                  | some L3 =>
                    rw [show ptrOf P k3 = some ⟨L3, 0, none⟩ by simp [ptrOf, ho3]] at d1 d2
                    obtain ⟨i0, hi0, _⟩ := Option.map_eq_some_iff.1 Yba.size31
                    have hne := fun (w : World) => Lib.run_neq_ptr_same (P := Yba.prog) w ⟨L3, 0, none⟩ Yba.underlying27 hi0
                    obtain ⟨_, _, a3, c3, i3⟩ := hlW.items k3 L3 ho3
                    obtain ⟨b, off, ha0, hbw, hc⟩ := w0 (by omega)
                    subst ha0
                    have hcx3 : W.cell? ⟨b, off + k3, none⟩ = some (.int .u16 (z.getD k3 0)) := by
                      rw [hlW.below.cell (p := ⟨b, off + k3, none⟩) hbw]; exact hc _ hlt3
                    obtain ⟨s3, hs3⟩ : ∃ s : Nat, z.getD k3 0 = s := ⟨(z.getD k3 0).toNat, by have := hz k3; omega⟩
                    rw [hs3] at hcx3 i3
                    simp only [Int.toNat_natCast] at i3
                    have hs31 : s3 ≤ 65535 := by have := hz k3; omega
                    have e3 : ((s3 : Int) != (s3 : Int)) = false := by simp
                    clear hs3
                    go_wp2
                    go_quiet (fail)
                    go_wp2
                    go_quiet (fail)
                    go_wp2
                    go_roundw
                    case rel => exact ⟨k3 + 1, _, by omega, by go_num, rfl⟩
                    case measure => simp [intOf]; omega
                · go_wp2
                  go_ret
                  exact ⟨rfl, below_drewN hlW.below _⟩
            · obtain ⟨En, rfl⟩ := Int.eq_ofNat_of_zero_le (show 0 ≤ E by omega)
              obtain ⟨L, hL⟩ := hexp En rfl (by have := HP.out; omega)
              obtain ⟨iL1, iL2, aL, cL, iL3⟩ := hlW.items En L hL
              obtain ⟨b, off, ha0, hbw, hc⟩ := w0 (by omega)
              subst ha0
              have hcx : W.cell? ⟨b, off + En, none⟩ = some (.int .u16 (z.getD En 0)) := by
                rw [hlW.below.cell (p := ⟨b, off + En, none⟩) hbw]; exact hc _ (by omega)
              obtain ⟨s, hs⟩ : ∃ s : Nat, z.getD En 0 = s := ⟨(z.getD En 0).toNat, by have := hz En; omega⟩
              have hs1 : s ≤ 65535 := by have := hz En; omega
              rw [hs] at hcx iL3
              simp only [Int.toNat_natCast] at iL3
              clear hs
              have h3 := hlW.pc En (by omega) 3 (by omega)
              simp only [if_true] at h3
              rw [show ptrOf P En = some ⟨L, 0, none⟩ by simp [ptrOf, hL]] at h3
              have t5 : decide (0 ≤ (En : Int)) = true := by simp
              have e2 : ((s : Int) != (s : Int)) = false := by simp
              refine (rows_pos wr.heap.size w.heap.size n En L s cL aL (by omega) hn hs1 W T0 T1 h3 iL3).mono ?_
              rintro e w' ⟨rfl, q1, rfl⟩
              go_wp2
              clear h3 iL3 hcx e2
              go_loopw [19] (fun i wx => ∃ k q : Nat, k ≤ n ∧ i = .int .i64 k ∧ wx = W.drewN q) (fun i _ => n - (intOf i).toNat)
              case atStart => exact ⟨0, _, by omega, rfl, rfl⟩
              case round =>
                obtain ⟨k3, q, hk3, rfl, rfl⟩ := hrel
                by_cases hlt3 : k3 < n
                · have d1 := hlW.pc k3 hlt3 3 (by omega)
                  simp only [if_true] at d1
                  have d2 := hlW.lc k3 hlt3
                  obtain ⟨o3, ho3⟩ : ∃ o3, P[k3]? = some o3 := ⟨_, List.getElem?_eq_getElem (by have := HP.out; omega)⟩
                  cases o3 with
                  | none =>
                    rw [show ptrOf P k3 = none by simp [ptrOf, ho3]] at d1 d2
                    go_wp2
                    go_quiet (fail)
                    go_wp2
                    go_quiet (fail)
                    go_wp2
                    go_roundw
                    case rel => exact ⟨k3 + 1, _, by omega, by go_num, rfl⟩
                    case measure => simp [intOf]; omega
                  | some L3 =>
                    rw [show ptrOf P k3 = some ⟨L3, 0, none⟩ by simp [ptrOf, ho3]] at d1 d2
                    obtain ⟨i0, hi0, _⟩ := Option.map_eq_some_iff.1 Yba.size31
                    have hne := fun (w : World) => Lib.run_neq_ptr_same (P := Yba.prog) w ⟨L3, 0, none⟩ Yba.underlying27 hi0
                    obtain ⟨_, _, a3, c3, i3⟩ := hlW.items k3 L3 ho3
                    have hcx3 : W.cell? ⟨b, off + k3, none⟩ = some (.int .u16 (z.getD k3 0)) := by
                      rw [hlW.below.cell (p := ⟨b, off + k3, none⟩) hbw]; exact hc _ hlt3
                    obtain ⟨s3, hs3⟩ : ∃ s : Nat, z.getD k3 0 = s := ⟨(z.getD k3 0).toNat, by have := hz k3; omega⟩
                    rw [hs3] at hcx3 i3
                    simp only [Int.toNat_natCast] at i3
                    have hs31 : s3 ≤ 65535 := by have := hz k3; omega
                    have e3 : ((s3 : Int) != (s3 : Int)) = false := by simp
                    clear hs3
                    go_wp2
                    go_quiet (fail)
                    go_wp2
                    go_quiet (fail)
                    go_wp2
                    go_roundw
                    case rel => exact ⟨k3 + 1, _, by omega, by go_num, rfl⟩
                    case measure => simp [intOf]; omega
                · go_wp2
                  go_ret
                  exact ⟨rfl, below_drewN hlW.below _⟩

end Go.Proofs.Ybulkeius
