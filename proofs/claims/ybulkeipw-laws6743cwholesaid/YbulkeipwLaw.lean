import Derived.Test.YbulkeipwShare
import Derived.BigQuiet
namespace Go.Proofs.Ybulkeipw
open Go.RowKit
set_option linter.unusedVariables false

set_option maxRecDepth 100000 in
theorem law_big (a0 : Option Addr) (n0 c0 : Nat) (a1 : Option Addr) (n1 c1 : Nat) (pk : Int) (sh : Bool) (w : World) (hn : 4096 < n0) :
    Calls Yba.prog 3 #[.slice a0 n0 c0, .slice a1 n1 c1, .int .u64 pk, .bool sh] w fun e w' => e = .returned (.bool true) ∧ Below w.heap.size w w' := by
  have t1 : decide ((4096 : Int) < (n0 : Int)) = true := by simp; omega
  go_enter Yba.func3, Yba.ntmps3
  go_wp2
  go_ret
  exact ⟨rfl, Below.refl _ _⟩

theorem Below.up {a b : World} {A : Nat} (h : Below A a b) {c : World} (k : Below b.heap.size b c) (hA : A ≤ b.heap.size) : Below A a c :=
  h.trans ⟨k.os, k.tape, k.output, k.size, fun q hq => k.block q (Nat.lt_of_lt_of_le hq hA)⟩

set_option maxRecDepth 100000 in
set_option maxHeartbeats 4000000 in
theorem law_walk (a0 : Option Addr) (n0 c0 : Nat) (a1 : Option Addr) (n1 c1 : Nat) (pk : Int) (sh : Bool) (ss : List ByteArray) (zs : List Int) (w : World) (hn : n0 ≤ 4096) (hss : ss.length = n0) (s0 : Strs w a0 ss) (hzs : zs.length = n1) (i1 : Ints w a1 zs) (hp0 : 0 ≤ pk) (hp1 : pk ≤ 18446744073709551615) :
    Calls Yba.prog 3 #[.slice a0 n0 c0, .slice a1 n1 c1, .int .u64 pk, .bool sh] w fun e w' => e = .returned (.bool true) ∧ Below w.heap.size w w' := by
  obtain ⟨i0, hi, hz0, hz1, hz2⟩ := info_parts Yba.info9
  have HI := hide hi
  have HZ0 := hide hz0
  have HZ1 := hide hz1
  have HZ2 := hide hz2
  have S0 := hide s0
  have I1 := hide i1
  clear hi hz0 hz1 hz2 s0 i1
  go_enter Yba.func3, Yba.ntmps3
  go_wp2
  go_loopw [9, 27] (fun v i wr => ∃ (m : Nat) (D : List ByteArray), m ≤ n0 ∧ i = .int .i64 m ∧ (E0 :: D).Nodup ∧ D.length ≤ m ∧ wr.ownsRow w.heap.size 9 1 v D.length (D.map Value.string) ∧ Below w.heap.size w wr) (fun _ i _ => n0 - (intOf i).toNat)
  case atStart => exact ⟨0, [], by omega, rfl, by simp, by simp, World.ownsRow_nil _ _ _ _, Below.refl _ _⟩
  case round =>
    obtain ⟨m, D, hm, rfl, hnd, hDm, hown, hb⟩ := hrel
    by_cases hlt : m < n0
    · obtain ⟨g, o, ha, hg, hr⟩ := S0.out (by intro e; simp [e] at hss; omega)
      subst ha
      obtain ⟨x, hx⟩ : ∃ x, x = ss.getD m ByteArray.empty := ⟨_, rfl⟩
      have hc : wr.cell? ⟨g, o + m, none⟩ = some (.string x) := by rw [hb.cell (p := ⟨g, o + m, none⟩) hg, hx]; exact hr m (by omega)
      have HB := hide hb
      have HND := hide hnd
      have hws := hb.size
      obtain ⟨a, c, rfl, hs⟩ := owns_shape hown
      have HS := hide hs
      have HO := hide hown
      clear hx hr hown hb hnd hs
      by_cases e1 : x = E0
      · have t1 := emp_yes e1
        have t2 : x.toList.isEmpty = true := by rw [t1]; rfl
        clear e1
        go_wp2
        go_roundw
        case rel => exact ⟨m + 1, D, by omega, by go_num, HND.out, by omega, HO.out, HB.out⟩
        case measure => simp [intOf]; omega
      · have t1 := emp_no e1
        have t2 : x.toList.isEmpty = false := by cases h : x.toList with | nil => exact absurd h t1 | cons a l => rfl
        have HE := hide e1
        clear e1
        by_cases e2 : x ∈ D
        · have CY := hide (contains_yes a c D x wr (by omega) HS.out e2)
          clear e2
          go_wp2_with (go_at_call 4; refine CY.out.mono ?_; rintro e w1 ⟨rfl, hw1⟩; rw [hw1]; clear hw1)
          go_roundw
          case rel => exact ⟨m + 1, D, by omega, by go_num, HND.out, by omega, HO.out, HB.out⟩
          case measure => simp [intOf]; omega
        · have CN := hide (contains_no a c D x wr (by omega) HS.out e2)
          have HE2 := hide e2
          clear e2
          go_wp2_with (first
            | (go_at_call 4; refine CN.out.mono ?_; rintro e w1 ⟨rfl, hw1⟩; rw [hw1]; clear hw1)
            | (at_builtin; refine wpList_append_own _ rfl _ _ 22 rfl w.heap.size 9 i0 (.string { data := #[] }) 1 16 Yba.underlying22 HI.out HZ0.out HZ1.out HZ2.out rfl (by decide) (.slice a D.length c) _ _ rfl (owns_alloc HO.out _) ⟨wr.heap.size, 0, none⟩ 1 1 [.string x] rfl rfl (one_new _ _ _) (by simp [Value.oneCell']) (by unfold maxLen; omega) (by omega) (by simp; omega) ?_
               intro v' w1 hown' hgrow hnn
               have hb1 : Below w.heap.size w w1 := (HB.out.alloc hws _).grown hgrow (by simp; omega) (fun j hj => (HO.out.lt j hj).1)
               have HO1 := hide hown'
               have HB1 := hide hb1
               clear hown' hgrow hnn hb1))
          go_roundw
          case rel =>
            refine ⟨m + 1, D ++ [x], by omega, by go_num, ?_, by simp; omega, by simpa using HO1.out, HB1.out⟩
            have h1 := List.nodup_cons.1 HND.out
            rw [List.nodup_cons, List.nodup_append]
            refine ⟨fun h => ?_, h1.2, by simp, fun y hy z hz h => ?_⟩
            · rcases List.mem_append.1 h with h | h
              · exact h1.1 h
              · exact HE.out (List.mem_singleton.1 h).symm
            · rw [List.mem_singleton.1 hz] at h
              exact HE2.out (h ▸ hy)
          case measure => simp [intOf]; omega
    · obtain rfl : m = n0 := by omega
      by_cases hD0 : D = []
      · subst hD0
        have HB := hide hb
        obtain ⟨a, c, rfl, hs⟩ := owns_shape hown
        clear hb hown hs hnd
        go_wp2
        go_ret
        exact ⟨rfl, HB.out⟩
      · obtain ⟨n, hnD⟩ : ∃ n, n = D.length := ⟨_, rfl⟩
        have hn0 : 0 < n := by rw [hnD]; cases D with | nil => exact absurd rfl hD0 | cons a l => simp
        obtain ⟨gd, cd, rfl, hgd, hoD⟩ := ownS_of hown (by
          rintro rfl
          obtain ⟨a, c, e, hs⟩ := owns_shape hown
          simp only [Value.slice.injEq] at e
          omega)
        rw [← hnD] at hDm ⊢
        have HnD := hide hnD
        have HND := hide hnd
        have HOD := hide hoD
        have HB := hide hb
        have hws := hb.size
        have hgdl := hoD.lt
        clear hnD hown hb hnd hoD hD0
        have hmk := makeN n (by omega) wr
        have hne : ((n : Int) == 0) = false := by simp; omega
        go_wp2
        obtain ⟨w2, hw2⟩ : ∃ w2, w2 = wr.alloc (.cells (madeCells #[.string E0] n) 9) := ⟨_, rfl⟩
        obtain ⟨pb, hpb⟩ : ∃ pb, pb = wr.heap.size := ⟨_, rfl⟩
        rw [← hw2, ← hpb]
        have hoP : OwnS w2 pb n (List.replicate n E0) := by rw [hw2, hpb]; exact ownS_made wr n (by omega)
        have hOD2 : OwnS w2 gd cd D := by rw [hw2]; exact HOD.out.congr (Below.heap_alloc _ _ _ HOD.out.lt)
        have hb2 : Below w.heap.size w w2 := by rw [hw2]; exact HB.out.alloc hws _
        have hgp : gd ≠ pb := by omega
        have hwp : w.heap.size ≤ pb := by omega
        have HOD2 := hide hOD2
        have HB2 := hide hb2
        have hws2 := hb2.size
        have hpbl := hoP.lt
        have hgdl2 := hOD2.lt
        clear hw2 hpb hmk hOD2 hb2 HOD HB
        go_loopw [13] (fun i wr => ∃ (m : Nat) (Pr : List ByteArray), m ≤ n ∧ i = .int .i64 m ∧ Pr.length = n ∧ OwnS wr pb n Pr ∧ (∀ j, j < n → Pr.getD j ByteArray.empty ∈ E0 :: D) ∧ Fr (fun x => x = pb) w2 wr) (fun i _ => n - (intOf i).toNat)
        case atStart => exact ⟨0, _, by omega, rfl, by simp, hoP, fun j hj => by simp [List.getD, hj], Fr.refl _ _⟩
        case round =>
          obtain ⟨q, Pr, hq, rfl, hPl, hoPr, hkeys, hfr⟩ := hrel
          clear hoP
          have hws3 := hfr.size
          have HOP := hide hoPr
          have HKEY := hide hkeys
          have HFR := hide hfr
          by_cases hqn : q < n
          · have hfz : ∀ j, wr.frozen? ⟨pb, j, none⟩ = false := fun j => by obtain ⟨cu, hcu⟩ := hoPr.blk; exact hcu.frozen j
            have hcl : wr.cell? ⟨pb, q, none⟩ = some (.string (Pr.getD q ByteArray.empty)) := by have := hoPr.row q (by omega); rwa [Nat.zero_add] at this
            have hod := HOD2.out.congr (hfr.block gd hgdl2 hgp)
            have hrow : ∀ j, j < n → wr.cell? ⟨gd, j, none⟩ = some (.string (D.getD j ByteArray.empty)) := fun j hj => by have := hod.row j (by rw [← HnD.out]; exact hj); rwa [Nat.zero_add] at this
            have HROW := hide hrow
            have fin : ∀ p : Nat, p < n → OwnS (wr.setCell ⟨pb, q, none⟩ (.string (D.getD p ByteArray.empty))) pb n (Pr.set q (D.getD p ByteArray.empty)) ∧ (Pr.set q (D.getD p ByteArray.empty)).length = n ∧ (∀ j, j < n → (Pr.set q (D.getD p ByteArray.empty)).getD j ByteArray.empty ∈ E0 :: D) ∧ Fr (fun x => x = pb) w2 (wr.setCell ⟨pb, q, none⟩ (.string (D.getD p ByteArray.empty))) := fun p hp => by
              refine ⟨hoPr.set (by omega), by simpa using hPl, fun j hj => ?_, hfr.setCell _ _ (fun _ => rfl)⟩
              by_cases e : q = j
              · subst e
                have hpD : p < D.length := by rw [← HnD.out]; exact hp
                have : (Pr.set q (D.getD p ByteArray.empty)).getD q ByteArray.empty = D.getD p ByteArray.empty := by simp [List.getD, hPl, hqn]
                rw [this, List.getD_eq_getElem?_getD, List.getElem?_eq_getElem hpD]
                exact List.mem_cons_of_mem _ (List.getElem_mem _)
              · have : (Pr.set q (D.getD p ByteArray.empty)).getD j ByteArray.empty = Pr.getD j ByteArray.empty := by simp [List.getD, e]
                rw [this]; exact hkeys j hj
            have FIN := hide fin
            clear hoPr hkeys hfr hod hrow fin
            by_cases hqz : q < n1
            · obtain ⟨g1, o1, ha1, hg1, hcz, hz0', hz1'⟩ := I1.out q (by omega)
              subst ha1
              obtain ⟨z, hz⟩ : ∃ z, z = zs.getD q 0 := ⟨_, rfl⟩
              rw [← hz] at hcz hz0' hz1'
              clear hz
              have hcz2 : wr.cell? ⟨g1, o1 + q, none⟩ = some (.int .u8 z) := by
                rw [World.cell?_of_block (w := w2) (a := ⟨g1, o1 + q, none⟩) (HFR.out.block g1 (by omega) (by omega)), HB2.out.cell (p := ⟨g1, o1 + q, none⟩) hg1]; exact hcz
              clear hcz
              have hm0 : 0 ≤ z % ((q : Int) + 1) := Int.emod_nonneg _ (by omega)
              have hm1 : z % ((q : Int) + 1) < (q : Int) + 1 := Int.emod_lt_of_pos _ (by omega)
              by_cases hpq : z % ((q : Int) + 1) < (q : Int)
              · obtain ⟨p, hp⟩ : ∃ p : Nat, z % ((q : Int) + 1) = p := ⟨(z % ((q : Int) + 1)).toNat, by omega⟩
                have hpn : p < n := by omega
                have hpq' : p < q := by omega
                have hcp := HROW.out p hpn
                clear hpq hm0 hm1
                go_wp2
                go_roundw
                case rel => exact ⟨q + 1, _, by omega, by go_num, (FIN.out p hpn).2.1, (FIN.out p hpn).1, (FIN.out p hpn).2.2.1, (FIN.out p hpn).2.2.2⟩
                case measure => simp [intOf]; omega
              · have t1 : decide (z % ((q : Int) + 1) < (q : Int)) = false := by simp; omega
                clear hpq
                go_wp2
                go_roundw
                case rel => exact ⟨q + 1, Pr, by omega, by go_num, hPl, HOP.out, HKEY.out, HFR.out⟩
                case measure => simp [intOf]; omega
            · have t0 : decide ((q : Int) < (n1 : Int)) = false := by simp; omega
              by_cases hpq : 0 < q
              · have hcp := HROW.out 0 (by omega)
                go_wp2
                go_roundw
                case rel => exact ⟨q + 1, _, by omega, by go_num, (FIN.out 0 (by omega)).2.1, (FIN.out 0 (by omega)).1, (FIN.out 0 (by omega)).2.2.1, (FIN.out 0 (by omega)).2.2.2⟩
                case measure => simp [intOf]; omega
              · obtain rfl : q = 0 := by omega
                go_wp2
                go_roundw
                case rel => exact ⟨1, Pr, by omega, by go_num, hPl, HOP.out, HKEY.out, HFR.out⟩
                case measure => simp [intOf]; omega
          · obtain rfl : q = n := by omega
            obtain ⟨r, hr⟩ : ∃ r : Nat, pk % (q : Int) = r := ⟨(pk % (q : Int)).toNat, by have := Int.emod_nonneg pk (b := (q : Int)) (by omega); omega⟩
            have hrn : r < q := by have := Int.emod_lt_of_pos pk (b := (q : Int)) (by omega); omega
            have hod := HOD2.out.congr (hfr.block gd hgdl2 hgp)
            have hcr : wr.cell? ⟨gd, r, none⟩ = some (.string (D.getD r ByteArray.empty)) := by have := hod.row r (by rw [← HnD.out]; exact hrn); rwa [Nat.zero_add] at this
            obtain ⟨id, hid⟩ : ∃ id, id = D.getD r ByteArray.empty := ⟨_, rfl⟩
            rw [← hid] at hcr
            have HID := hide hid
            have HOD := hide hod
            have hbw : Below w.heap.size w wr := HB2.out.trans ⟨hfr.os, hfr.tape, hfr.output, hfr.size, fun x hx => hfr.block x (Nat.lt_of_lt_of_le hx HB2.out.size) (by omega)⟩
            have HBW := hide hbw
            have hb38 := build38
            clear hod hid hoPr hkeys hfr hbw HOD2 HB2 HFR
            cases sh with
            | false =>
              go_wp2_with fail
              obtain ⟨wB, hwB⟩ : ∃ wB, wB = wr.alloc (.cells zero12 38) := ⟨_, rfl⟩
              obtain ⟨wb, hwb⟩ : ∃ wb, wb = wr.heap.size := ⟨_, rfl⟩
              rw [← hwB, ← hwb]
              have hBB : Blk wB wb zero12 38 := by rw [hwB, hwb]; exact blk_new _ _ _
              have hoDB : OwnS wB gd cd D := by rw [hwB]; exact HOD.out.congr (Below.heap_alloc _ _ _ HOD.out.lt)
              have hoPB : OwnS wB pb q Pr := by rw [hwB]; exact HOP.out.congr (Below.heap_alloc _ _ _ HOP.out.lt)
              have hbB : Below w.heap.size w wB := by rw [hwB]; exact HBW.out.alloc HBW.out.size _
              have hwbl : wb < wB.heap.size := hBB.lt
              have hwwb : w.heap.size ≤ wb := by rw [hwb]; exact HBW.out.size
              have hgdB := hoDB.lt
              have hpbB := hoPB.lt
              have hgdwb : gd ≠ wb := by rw [hwb]; exact Nat.ne_of_lt HOD.out.lt
              have hpbwb : pb ≠ wb := by rw [hwb]; exact Nat.ne_of_lt HOP.out.lt
              clear hwB hwb hcr hb38 HOD HOP HBW
              refine (newEdit_false hBB).mono ?_
              rintro e wN ⟨rfl, hsN, hrmN, hEN, hWN, hZN, hfN⟩
              have hmpN : Cow wN (wB.heap.size + 4) 93 none none 0 false false := hZN 2 (by omega)
              have hmcN : Cow wN (wB.heap.size + 5) 88 none none 0 false false := hZN 3 (by omega)
              have hoDN : OwnS wN gd cd D := hoDB.congr (hfN.block gd hgdB hgdwb)
              have hoPN : OwnS wN pb q Pr := hoPB.congr (hfN.block pb hpbB hpbwb)
              have hbN : Below w.heap.size w wN := hbB.trans ⟨hfN.os, hfN.tape, hfN.output, hfN.size, fun x hx => hfN.block x (by omega) (by omega)⟩
              have hfill := fill_any hWN rfl rfl hmpN hmcN HnD.out.symm hPl (by omega) hn0 hoDN.strs hoPN.strs HND.out HKEY.out (cd := cd) (cp := q)
              have HFILL := hide hfill
              have HEN := hide hEN
              have HWN := hide hWN
              have HRN := hide hrmN
              have HODN := hide hoDN
              have HOPN := hide hoPN
              have HBN := hide hbN
              have HMPN := hide hmpN
              have HMCN := hide hmcN
              clear hfill hEN hWN hrmN hoDN hoPN hbN hmpN hmcN hZN hfN hBB hoDB hoPB hbB
              go_wp2_with fail
              refine HFILL.out.mono ?_
              rintro e wF ⟨rfl, bp, bc, fc, G, st⟩
              have hEF := HEN.out.fr st.fr (by omega)
              have hWF := HWN.out.fr st.fr (by omega)
              have hrm := rm_own (r := r) st (by omega) (by omega) (by omega) HnD.out.symm (by omega) HND.out hrn (HKEY.out r hrn) hEF hWF rfl rfl (by omega) (by omega)
              rw [← HID.out] at hrm
              have HRM := hide hrm
              have HST := hide st
              clear hEF hWF hrm st HFILL
              go_wp2_with fail
              refine HRM.out.mono ?_
              rintro e wR ⟨rfl, hdone, ⟨h, c, hoh, hER⟩, hfR⟩
              have hfNF := HST.out.fr
              have hsF := hfNF.size
              have hsR := hfR.size
              have hWR := (HWN.out.fr hfNF (by omega)).fr hfR (by omega)
              have hRR := (HRN.out.fr hfNF (by omega)).fr hfR (by omega)
              have hoDR : OwnS wR gd cd D := (HODN.out.congr (hfNF.block gd (by omega) (by omega))).congr (hfR.block gd (by omega) (by omega))
              have hoPR : OwnS wR pb q Pr := (HOPN.out.congr (hfNF.block pb (by omega) (by omega))).congr (hfR.block pb (by omega) (by omega))
              have hbR : Below w.heap.size w wR := HBN.out.trans ⟨hfR.os.trans hfNF.os, hfR.tape.trans hfNF.tape, hfR.output.trans hfNF.output, Nat.le_trans hsF hsR, fun x hx => by rw [hfR.block x (by omega) (by omega), hfNF.block x (by omega) (by omega)]⟩
              have k1 : wR.cell? ⟨wB.heap.size + 1, 3, none⟩ = some (.slice (some ⟨h, 0, none⟩) 1 c) := hER.cell 3
              have k2 : wR.cell? ⟨wB.heap.size + 1, 2, none⟩ = some (.map (some wB.heap.size)) := hER.cell 2
              have k3 : wR.cell? ⟨h, 0, none⟩ = some (.string id) := by have := hoh.row 0 (by simp); simpa [HID.out] using this
              have k4 := fun ty => len_none (w := wR) ty hRR
              have t1 := str_eq (rfl : id = id)
              have KK : Hid (∀ W, Below wR.heap.size wR W → W.cell? ⟨wb, 2, none⟩ = some (ptr (wB.heap.size + 4)) ∧ W.cell? ⟨wb, 3, none⟩ = some (ptr (wB.heap.size + 5)) ∧ W.cell? ⟨wB.heap.size + 1, 1, none⟩ = some (.map none) ∧ W.cell? ⟨wB.heap.size + 1, 4, none⟩ = some (.pointer none)) := fun W hW =>
                ⟨(hWR.congr (hW.block _ hWR.lt)).cell 2, (hWR.congr (hW.block _ hWR.lt)).cell 3, (hER.congr (hW.block _ hER.lt)).cell 1, (hER.congr (hW.block _ hER.lt)).cell 4⟩
              have hmaps := Done.calls (w := wR.drew) (hdone.below (Below.refl _ _).drew) (cd := cd) (cp := q) HnD.out.symm hPl (by omega) hn0 (ad := some ⟨gd, 0, none⟩) (ap := some ⟨pb, 0, none⟩) hoDR.strs hoPR.strs
              have HMAPS := hide hmaps
              have HBR := hide hbR
              clear hdone hoh hER hfR hfNF hWR hRR hoDR hoPR hbR hmaps HRM HST HEN HWN HRN HODN HOPN HBN HMPN HMCN
              have hq := fun (W : World) (r : Option Nat) => run_neq_map_nil (P := Yba.prog) W 43 48 4 r Yba.underlying43
              go_wp2
              go_region_held3 (fun w' => w'.cell? ⟨wb, 2, none⟩ = some (ptr (wB.heap.size + 4)) ∧ w'.cell? ⟨wb, 3, none⟩ = some (ptr (wB.heap.size + 5)))
                (first | exact ⟨(KK.out wR (Below.refl _ _)).1, (KK.out wR (Below.refl _ _)).2.1⟩ | assumption)
                (first | (go_at_call 8; refine HMAPS.out.mono ?_; rintro e w8 ⟨rfl, hb8⟩; replace hb8 : Below wR.heap.size wR w8 := ⟨hb8.os, hb8.tape, hb8.output, hb8.size, hb8.block⟩; have hk8 : w8.cell? ⟨wb, 2, none⟩ = some (ptr (wB.heap.size + 4)) ∧ w8.cell? ⟨wb, 3, none⟩ = some (ptr (wB.heap.size + 5)) := ⟨(KK.out w8 hb8).1, (KK.out w8 hb8).2.1⟩))
              have j1 := (KK.out w8 hb8).2.2.1
              have j2 := (KK.out w8 hb8).2.2.2
              have HB8 := hide (Below.up HBR.out hb8 HBR.out.size)
              clear hb8 hk8 k1 k2 k3 k4
              go_wp2
              go_ret
              exact ⟨rfl, HB8.out⟩
            | true =>
              go_wp2_with fail
              obtain ⟨wB, hwB⟩ : ∃ wB, wB = wr.alloc (.cells zero12 38) := ⟨_, rfl⟩
              obtain ⟨wb, hwb⟩ : ∃ wb, wb = wr.heap.size := ⟨_, rfl⟩
              rw [← hwB, ← hwb]
              have hBB : Blk wB wb zero12 38 := by rw [hwB, hwb]; exact blk_new _ _ _
              have hoDB : OwnS wB gd cd D := by rw [hwB]; exact HOD.out.congr (Below.heap_alloc _ _ _ HOD.out.lt)
              have hoPB : OwnS wB pb q Pr := by rw [hwB]; exact HOP.out.congr (Below.heap_alloc _ _ _ HOP.out.lt)
              have hbB : Below w.heap.size w wB := by rw [hwB]; exact HBW.out.alloc HBW.out.size _
              have hwbl : wb < wB.heap.size := hBB.lt
              have hwwb : w.heap.size ≤ wb := by rw [hwb]; exact HBW.out.size
              have hgdB := hoDB.lt
              have hpbB := hoPB.lt
              have hgdwb : gd ≠ wb := by rw [hwb]; exact Nat.ne_of_lt HOD.out.lt
              have hpbwb : pb ≠ wb := by rw [hwb]; exact Nat.ne_of_lt HOP.out.lt
              clear hwB hwb hcr hb38 HOD HOP HBW
              refine (newEdit_false hBB).mono ?_
              rintro e wN ⟨rfl, hsN, hrmN, hEN, hWN, hZN, hfN⟩
              have hmpN : Cow wN (wB.heap.size + 4) 93 none none 0 false false := hZN 2 (by omega)
              have hmcN : Cow wN (wB.heap.size + 5) 88 none none 0 false false := hZN 3 (by omega)
              have hoDN : OwnS wN gd cd D := hoDB.congr (hfN.block gd hgdB hgdwb)
              have hoPN : OwnS wN pb q Pr := hoPB.congr (hfN.block pb hpbB hpbwb)
              have hbN : Below w.heap.size w wN := hbB.trans ⟨hfN.os, hfN.tape, hfN.output, hfN.size, fun x hx => hfN.block x (by omega) (by omega)⟩
              have hfill := fill_any hWN rfl rfl hmpN hmcN HnD.out.symm hPl (by omega) hn0 hoDN.strs hoPN.strs HND.out HKEY.out (cd := cd) (cp := q)
              have HFILL := hide hfill
              have HEN := hide hEN
              have HWN := hide hWN
              have HRN := hide hrmN
              have HODN := hide hoDN
              have HOPN := hide hoPN
              have HBN := hide hbN
              have HMPN := hide hmpN
              have HMCN := hide hmcN
              have HZN := hide hZN
              clear hfill hEN hWN hrmN hoDN hoPN hbN hmpN hmcN hZN hfN hBB hoDB hoPB hbB
              go_wp2_with fail
              refine HFILL.out.mono ?_
              rintro e wF ⟨rfl, bp, bc, fc, G, st⟩
              have hWF := HWN.out.fr st.fr (by omega)
              have hZF : ∀ i, i < 10 → i ≠ 2 → i ≠ 3 → Cow wF (wB.heap.size + 2 + i) (tyOf i) none none 0 false false := fun i hi h2 h3 => Blk.fr (HZN.out i hi) st.fr (by omega)
              have l0 := hWF.cell 0
              have l1 := hWF.cell 1
              have l2 := hWF.cell 2
              have l3 := hWF.cell 3
              have l4 := hWF.cell 4
              have l5 := hWF.cell 5
              have l6 := hWF.cell 6
              have l7 := hWF.cell 7
              have l8 := hWF.cell 8
              have l9 := hWF.cell 9
              have l10 := hWF.cell 10
              have l11 := hWF.cell 11
              have HWF := hide hWF
              have HZF := hide hZF
              have HST := hide st
              have hsF : wN.heap.size ≤ wF.heap.size := st.fr.size
              clear hWF hZF st HFILL HEN HMPN HMCN HZN HRN
              have hst := fun (W : World) (a : Addr) (mo : Mode) => run_store Yba.prog W a Value.nilFunc mo rfl
              go_wp2_with fail
              refine (shared_edit HST.out hsN HZF.out).mono ?_
              rintro e wH ⟨rfl, S⟩
              have HRM := hide (shared_rm (r := r) HST.out hsN S HnD.out.symm (by omega) HND.out hrn (HKEY.out r hrn))
              rw [← HID.out] at HRM
              have HS := hide S
              have hsH := S.size
              clear l0 l1 l2 l3 l4 l5 l6 l7 l8 l9 l10 l11 hst S
              go_wp2_with fail
              refine HRM.out.mono ?_
              rintro e wR ⟨rfl, hdone, hdone0, hcmR, ⟨h, c, hoh, hER⟩, hfR⟩
              obtain ⟨sF, hsFe⟩ : ∃ sF, sF = wF.heap.size := ⟨_, rfl⟩
              have hfNF := HST.out.fr
              have hfFH := HS.out.fr
              have hsR := hfR.size
              have hWR := HS.out.w1.fr hfR (by omega)
              have hW0 := (HWF.out.fr hfFH (by omega)).fr hfR (by omega)
              have hRR := HS.out.rm.fr hfR (by omega)
              have hoDR : OwnS wR gd cd D := ((HODN.out.congr (hfNF.block gd (by omega) (by omega))).congr (hfFH.block gd (by omega) (by omega))).congr (hfR.block gd (by omega) (by omega))
              have hoPR : OwnS wR pb q Pr := ((HOPN.out.congr (hfNF.block pb (by omega) (by omega))).congr (hfFH.block pb (by omega) (by omega))).congr (hfR.block pb (by omega) (by omega))
              have hbR : Below w.heap.size w wR := HBN.out.trans ⟨hfR.os.trans (hfFH.os.trans hfNF.os), hfR.tape.trans (hfFH.tape.trans hfNF.tape), hfR.output.trans (hfFH.output.trans hfNF.output), by omega, fun x hx => by rw [hfR.block x (by omega) (by omega), hfFH.block x (by omega) (by omega), hfNF.block x (by omega) (by omega)]⟩
              obtain ⟨pk2, hpk2⟩ : ∃ p, p = Pr.getD r ByteArray.empty := ⟨_, rfl⟩
              rw [← hpk2] at hcmR
              rw [← hsFe] at hcmR hER hWR hRR hdone ⊢
              have k1 : wR.cell? ⟨sF + 2, 3, none⟩ = some (.slice (some ⟨h, 0, none⟩) 1 c) := hER.cell 3
              have k2 : wR.cell? ⟨sF + 2, 2, none⟩ = some (.map (some (sF + 1))) := hER.cell 2
              have k3 : wR.cell? ⟨h, 0, none⟩ = some (.string id) := by have := hoh.row 0 (by simp); simpa [HID.out] using this
              have k4 := fun ty => len_none (w := wR) ty hRR
              have t1 := str_eq (rfl : id = id)
              have hprow : wR.cell? ⟨pb, r, none⟩ = some (.string pk2) := by have := hoPR.row r (by omega); rwa [Nat.zero_add, ← hpk2] at this
              have hcml : sF + 3 < wR.heap.size := lt_of_block hcmR
              have hpbR := hoPR.lt
              have KK : Hid (∀ W, Below wR.heap.size wR W → W.cell? ⟨sF, 2, none⟩ = some (ptr (sF + 6)) ∧ W.cell? ⟨sF, 3, none⟩ = some (ptr (sF + 7)) ∧ W.cell? ⟨sF + 2, 1, none⟩ = some (.map (some (sF + 3))) ∧ W.cell? ⟨sF + 2, 4, none⟩ = some (ptr (wB.heap.size + 4)) ∧ W.cell? ⟨wb, 2, none⟩ = some (ptr (wB.heap.size + 4)) ∧ W.cell? ⟨wb, 3, none⟩ = some (ptr (wB.heap.size + 5)) ∧ W.cell? ⟨pb, r, none⟩ = some (.string pk2) ∧ W.heap[sF + 3]? = some (.map #[⟨key2 (sF + 7) pk2, .bool true, 0⟩] 1)) := fun W hW =>
                ⟨(hWR.congr (hW.block _ hWR.lt)).cell 2, (hWR.congr (hW.block _ hWR.lt)).cell 3, (hER.congr (hW.block _ hER.lt)).cell 1, (hER.congr (hW.block _ hER.lt)).cell 4, (hW0.congr (hW.block _ hW0.lt)).cell 2, (hW0.congr (hW.block _ hW0.lt)).cell 3, (hW.cell (p := ⟨pb, r, none⟩) hpbR).trans hprow, (hW.block _ hcml).trans hcmR⟩
              have hmaps := Done.calls (w := wR.drew) (hdone.below (Below.refl _ _).drew) (cd := cd) (cp := q) HnD.out.symm hPl (by omega) hn0 (ad := some ⟨gd, 0, none⟩) (ap := some ⟨pb, 0, none⟩) hoDR.strs hoPR.strs
              have hmaps0 : ∀ W, Below wR.heap.size wR W → Calls Yba.prog 8 #[ptr (wB.heap.size + 4), ptr (wB.heap.size + 5), .slice (some ⟨gd, 0, none⟩) q cd, .slice (some ⟨pb, 0, none⟩) q q, .int .i64 (-1)] W fun e w' => e = .returned (.bool true) ∧ Below W.heap.size W w' := fun W hW =>
                Done.calls (hdone0.below hW) HnD.out.symm hPl (by omega) hn0 (hoDR.strs.below hW) (hoPR.strs.below hW)
              have HMAPS := hide hmaps
              have HMAPS0 := hide hmaps0
              have HBR := hide hbR
              clear hdone hdone0 hoh hER hfR hfNF hfFH hWR hW0 hRR hoDR hoPR hbR hmaps hmaps0 HRM HST HS HWN HODN HOPN HBN HWF HZF hcmR hprow hpk2 hsFe
              go_wp2
              go_region_held3 (fun w' => w'.cell? ⟨sF, 2, none⟩ = some (ptr (sF + 6)) ∧ w'.cell? ⟨sF, 3, none⟩ = some (ptr (sF + 7)))
                (first | exact ⟨(KK.out wR (Below.refl _ _)).1, (KK.out wR (Below.refl _ _)).2.1⟩ | assumption)
                (first | (go_at_call 8; refine HMAPS.out.mono ?_; rintro e w8 ⟨rfl, hb8⟩; replace hb8 : Below wR.heap.size wR w8 := ⟨hb8.os, hb8.tape, hb8.output, hb8.size, hb8.block⟩; have hk8 : w8.cell? ⟨sF, 2, none⟩ = some (ptr (sF + 6)) ∧ w8.cell? ⟨sF, 3, none⟩ = some (ptr (sF + 7)) := ⟨(KK.out w8 hb8).1, (KK.out w8 hb8).2.1⟩))
              have HB8 := hide hb8
              obtain ⟨_, j0, j1, j2, j3, j4, j5, j6⟩ := KK.out w8 hb8
              clear hb8 hk8 k1 k2 k3 k4
              have hq1 := fun (W : World) => neq29 W (wB.heap.size + 4)
              go_wp2
              go_region
              have hL1 := fun (ty : TypeId) (k : Nat) => len2_one (w := w8.drew.drewN k) ty j6
              have hL2 := fun (ty : TypeId) (k : Nat) => len2_one (w := w8.drewN k) ty j6
              have hK1 := fun (k : Nat) => look2_one (w := w8.drew.drewN k) j6
              have hK2 := fun (k : Nat) => look2_one (w := w8.drewN k) j6
              have hb48 := build48
              have J6 := hide j6
              clear j6
              go_wp2
              go_quiet (fail)
              clear hL1 hL2 hK1 hK2 hb48 j0 j1 j2 j5 hq1
              have HM0 : Hid (∀ k : Nat, Calls Yba.prog 8 #[ptr (wB.heap.size + 4), ptr (wB.heap.size + 5), .slice (some ⟨gd, 0, none⟩) q cd, .slice (some ⟨pb, 0, none⟩) q q, .int .i64 (-1)] (w8.drewN k) fun e w' => e = .returned (.bool true) ∧ Below w8.heap.size w8 w') := fun k =>
                (HMAPS0.out (w8.drewN k) ⟨HB8.out.os, HB8.out.tape, HB8.out.output, HB8.out.size, HB8.out.block⟩).mono (fun e w' h => ⟨h.1, ⟨h.2.os, h.2.tape, h.2.output, h.2.size, h.2.block⟩⟩)
              go_wp2
              go_region_held3 (fun w' => w'.cell? ⟨wb, 2, none⟩ = some (ptr (wB.heap.size + 4)) ∧ w'.cell? ⟨wb, 3, none⟩ = some (ptr (wB.heap.size + 5)))
                (first | exact ⟨j3, j4⟩ | assumption)
                (first | (go_at_call 8; refine (HM0.out _).mono ?_; rintro e w9 ⟨rfl, hb9⟩; have hk9 : w9.cell? ⟨wb, 2, none⟩ = some (ptr (wB.heap.size + 4)) ∧ w9.cell? ⟨wb, 3, none⟩ = some (ptr (wB.heap.size + 5)) := ⟨(KK.out w9 (Below.up HB8.out hb9 HB8.out.size)).2.2.2.2.1, (KK.out w9 (Below.up HB8.out hb9 HB8.out.size)).2.2.2.2.2.1⟩))
              have HB9 := hide (Below.up HBR.out (Below.up HB8.out hb9 HB8.out.size) HBR.out.size)
              clear hb9 hk9
              go_wp2
              go_ret
              exact ⟨rfl, HB9.out⟩
end Go.Proofs.Ybulkeipw
