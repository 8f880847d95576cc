import Derived.Test.YbulkeipwChk
namespace Go.Proofs.Ybulkeipw
open Go.RowKit
set_option linter.unusedVariables false

set_option maxRecDepth 20000 in
set_option maxHeartbeats 2000000 in
theorem maps_any {w : World} {mp mc n : Nat} {fP fC : ByteArray → Option Value} {D Pr : List ByteArray} {ad ap : Option Addr} {cd cp : Nat} {skip : Int}
    (hp : AnsP w mp (cntP skip n) fP) (hc : AnsC w mc (cnt (fun k => kids D Pr k skip n) (E0 :: D)) fC) (hD : D.length = n) (hP : Pr.length = n) (hn : n ≤ 4096) (hn0 : 0 < n) (sD : Strs w ad D) (sP : Strs w ap Pr)
    (hfP : ∀ i, i < n → fP (D.getD i ByteArray.empty) = if (i : Int) = skip then none else some (.string (Pr.getD i ByteArray.empty)))
    (hfC : ∀ k ∈ E0 :: D, (kids D Pr k skip n = [] → fC k = none) ∧ (kids D Pr k skip n ≠ [] → ∃ a c, fC k = some (.slice a (kids D Pr k skip n).length c) ∧ Strs w a (kids D Pr k skip n))) :
    Calls Yba.prog 8 #[ptr mp, ptr mc, .slice ad n cd, .slice ap n cp, .int .i64 skip] w fun e w' => e = .returned (.bool true) ∧ Below w.heap.size w w' := by
  obtain ⟨i0, hi, hz0, hz1, hz2⟩ := info_parts Yba.info9
  have HI := hide hi
  have HZ1 := hide hz1
  have HP := hide hp
  have HC := hide hc
  have HFP := hide hfP
  have HFC := hide hfC
  have SD := hide sD
  have SP := hide sP
  obtain ⟨gd, od, had, hgd, rD⟩ := sD (by intro e; simp [e] at hD; omega)
  obtain ⟨gp, op, hap, hgp, rP⟩ := sP (by intro e; simp [e] at hP; omega)
  subst had
  subst hap
  have RD := hide rD
  have RP := hide rP
  clear hi hz0 hz1 hz2 hp hc hfP hfC sD sP rD rP
  go_enter Yba.func8, Yba.ntmps8
  go_wp2
  go_loopw [11, 12] (fun v i wr => ∃ m : Nat, m ≤ n ∧ i = .int .i64 m ∧ v = .int .i64 (cntP skip m) ∧ Below w.heap.size w wr) (fun _ i _ => n - (intOf i).toNat)
  case atStart => exact ⟨0, by omega, rfl, rfl, Below.refl _ _⟩
  case round =>
    obtain ⟨m, hm, rfl, rfl, hb⟩ := hrel
    have hcle := cntP_le skip m
    by_cases hlt : m < n
    · obtain ⟨xd, hxd⟩ : ∃ x, x = D.getD m ByteArray.empty := ⟨_, rfl⟩
      obtain ⟨xp, hxp⟩ : ∃ x, x = Pr.getD m ByteArray.empty := ⟨_, rfl⟩
      have keep : ∀ W, Below w.heap.size w W → W.cell? ⟨gd, od + m, none⟩ = some (.string xd) ∧ W.cell? ⟨gp, op + m, none⟩ = some (.string xp) := fun W hW =>
        ⟨by rw [hW.cell (p := ⟨gd, od + m, none⟩) hgd, hxd]; exact RD.out m (by omega), by rw [hW.cell (p := ⟨gp, op + m, none⟩) hgp, hxp]; exact RP.out m (by omega)⟩
      have KEEP := hide keep
      have e0 := (keep wr hb).1
      have hfx := HFP.out m hlt
      rw [← hxd, ← hxp] at hfx
      have HB := hide hb
      have lk := HP.out.look wr hb xd
      clear keep hxd hxp hb
      by_cases h1 : (m : Int) = skip
      · rw [hfx, if_pos h1] at lk
        have LK := hide lk
        have t1 : ((m : Int) == skip) = true := by simp [h1]
        have HN : Hid (cntP skip (m + 1) = cntP skip m) := by show _ = _; rw [cntP, if_pos h1]; rfl
        clear lk hfx h1
        go_wp2_with (go_at_call 23; refine LK.out.mono ?_; rintro e w1 ⟨rfl, hb1⟩; have HB1 := hide hb1; clear hb1)
        go_roundw
        case rel => exact ⟨m + 1, by omega, by go_num, by rw [HN.out], HB.out.trans ⟨HB1.out.os, HB1.out.tape, HB1.out.output, HB1.out.size, fun q hq => HB1.out.block q (Nat.lt_of_lt_of_le hq HB.out.size)⟩⟩
        case measure => simp [intOf]; omega
      · rw [hfx, if_neg h1] at lk
        have LK := hide lk
        have t1 : ((m : Int) == skip) = false := by simp [h1]
        have HN : Hid (cntP skip (m + 1) = cntP skip m + 1) := by show _ = _; rw [cntP, if_neg h1]
        have t2 := str_eq (rfl : xp = xp)
        clear lk hfx h1
        go_wp2_with (go_at_call 23; refine LK.out.mono ?_; rintro e w1 ⟨rfl, hb1⟩; have hb1' : Below w.heap.size w w1 := HB.out.trans ⟨hb1.os, hb1.tape, hb1.output, hb1.size, fun q hq => hb1.block q (Nat.lt_of_lt_of_le hq HB.out.size)⟩; have e1 := (KEEP.out w1 hb1').2; have HB1 := hide hb1'; clear hb1 hb1')
        go_roundw
        case rel => exact ⟨m + 1, by omega, by go_num, by rw [HN.out]; go_num, HB1.out⟩
        case measure => simp [intOf]; omega
    · obtain rfl : m = n := by omega
      have HB := hide hb
      have LN := hide (HP.out.len wr hb)
      clear hb
      have hmk : (Instr.makeSlice 22 (.int .i64 0) (.int .i64 ((m : Int) + 1))).run Yba.prog wr = .ok (.slice (some ⟨wr.heap.size, 0, none⟩) 0 (m + 1)) (wr.alloc (.cells (madeCells #[.string E0] (m + 1)) 9)) := by
        have := make22 (m + 1) (by omega) wr
        simpa using this
      have hown0 := World.ownsRow_made (base := w.heap.size) (e := 9) (size := 1) wr (madeCells #[Value.string E0] (m + 1)) (m + 1) HB.out.size (by simp [maxLen]; omega) (by simp [madeCells])
      have hnew : ∀ (j : Nat) (v : Value), ([.string E0] : List Value)[j]? = some v → ((wr.alloc (.cells (madeCells #[.string E0] (m + 1)) 9)).alloc (.cells #[.string E0] 9)).cell? ((⟨wr.heap.size + 1, 0, none⟩ : Addr).add j) = some v := fun j v h => by
        have := one_new (wr.alloc (.cells (madeCells #[.string E0] (m + 1)) 9)) (.string E0) 9 j v h
        simpa using this
      have HOWN0 := hide (owns_alloc hown0 (.cells #[.string E0] 9))
      have HNEW := hide hnew
      have hws : w.heap.size ≤ wr.heap.size := HB.out.size
      clear hown0 hnew
      go_wp2_with (first
        | (go_at_call 24; refine LN.out.mono ?_; rintro e w1 ⟨rfl, hw1⟩; rw [hw1]; clear hw1)
        | (at_builtin; refine wpList_append_fits _ rfl (.tmp 61) (.tmp 62) 22 rfl w.heap.size 9 i0 1 Yba.underlying22 HI.out HZ1.out wr.heap.size 0 (m + 1) [] rfl HOWN0.out ⟨wr.heap.size + 1, 0, none⟩ 1 1 [.string E0] rfl rfl HNEW.out (by simp [Value.oneCell']) (by omega) ?_
           intro w2 hown2 hgrow2
           simp only [Nat.zero_add, List.nil_append] at hown2
           have hb2 : Below w.heap.size w w2 := ((HB.out.alloc hws _).alloc (by simp; omega) _).grown hgrow2 (by simp; omega) (fun k hk => by simp at hk; omega)
           have HO2 := hide hown2
           have HB2 := hide hb2
           clear hown2 hgrow2 hb2 hmk)
        | (at_builtin; refine wpList_append_fits _ rfl (.tmp 64) (.tmp 65) 22 rfl w.heap.size 9 i0 1 Yba.underlying22 HI.out HZ1.out wr.heap.size 1 (m + 1) _ rfl HO2.out ⟨gd, od, none⟩ m cd (D.map Value.string) rfl (by simp [hD]) (RD.out.congr (HB2.out.block gd hgd)).news (strs_oneCell _) (by omega) ?_
           intro w3 hown3 hgrow3
           have hb3 : Below w.heap.size w w3 := HB2.out.grown hgrow3 (HB2.out.size) (fun k hk => by simp at hk; omega)
           have HO3 := hide hown3
           have HB3 := hide hb3
           clear hown3 hgrow3 hb3))
      have hK : OwnS w3 wr.heap.size (m + 1) (E0 :: D) := by
        have h' : w3.ownsRow w.heap.size 9 1 (.slice (some ⟨wr.heap.size, 0, none⟩) (1 + m) (m + 1)) (1 + m) ((E0 :: D).map Value.string) := HO3.out
        obtain ⟨g', cap', e, _, ho⟩ := ownS_of h' (by simp)
        simp only [Value.slice.injEq, Option.some.injEq, Addr.mk.injEq] at e
        obtain ⟨⟨rfl, _⟩, _, rfl⟩ := e
        exact ho
      have HKK := hide hK
      obtain ⟨kb, hkb⟩ : ∃ kb, kb = wr.heap.size := ⟨_, rfl⟩
      rw [← hkb] at HKK hK ⊢
      have hkbl := hK.lt
      have hs3 := HB3.out.size
      clear hK HO3 HO2 HB2 HOWN0 HNEW hkb LN hws
      have LE : Hid (∀ W, Below w3.heap.size w3 W → Below w.heap.size w W) := fun W hW => HB3.out.trans ⟨hW.os, hW.tape, hW.output, hW.size, fun q hq => hW.block q (Nat.lt_of_lt_of_le hq HB3.out.size)⟩
      have hKl : (E0 :: D).length = m + 1 := by simp [hD]
      go_loopw [16, 69] (fun v i wr => ∃ j : Nat, j ≤ m + 1 ∧ i = .int .i64 j ∧ v = .int .i64 (cnt (fun k => kids D Pr k skip m) ((E0 :: D).take j)) ∧ Below w3.heap.size w3 wr) (fun _ i _ => m + 1 - (intOf i).toNat)
      case atStart => exact ⟨0, by omega, rfl, rfl, Below.refl _ _⟩
      case round =>
        obtain ⟨j, hj, rfl, rfl, hb⟩ := hrel
        by_cases hlt : j < m + 1
        · obtain ⟨kx, hkx⟩ : ∃ x, x = (E0 :: D).getD j ByteArray.empty := ⟨_, rfl⟩
          have hmem : kx ∈ E0 :: D := by rw [hkx, List.getD_eq_getElem?_getD, List.getElem?_eq_getElem (by omega)]; exact List.getElem_mem _
          have e0 : wr.cell? ⟨kb, j, none⟩ = some (.string kx) := by
            rw [hb.cell (p := ⟨kb, j, none⟩) hkbl, hkx]
            have := HKK.out.row j (by omega)
            rwa [Nat.zero_add] at this
          have hct := cnt_take (fun k => kids D Pr k skip m) (E0 :: D) j (by omega)
          rw [← hkx] at hct
          have hcl := cnt_le (fun k => kids D Pr k skip m) ((E0 :: D).take j)
          have hcl2 : ((E0 :: D).take j).length = j := by rw [List.length_take]; omega
          rw [hcl2] at hcl
          obtain ⟨ct, hcte⟩ : ∃ ct, ct = cnt (fun k => kids D Pr k skip m) ((E0 :: D).take j) := ⟨_, rfl⟩
          rw [← hcte] at hcl hct ⊢
          have HB := hide hb
          have KA := hide (kids_any (some ⟨gd, od, none⟩) (some ⟨gp, op, none⟩) cd cp m D Pr kx skip wr hD hP hn (SD.out.below (LE.out wr hb)) (SP.out.below (LE.out wr hb)))
          have hkl := kids_len D Pr kx skip m
          have HF := hide (HFC.out kx hmem)
          clear hb hkx hmem hcl2 hcte
          by_cases e : kids D Pr kx skip m = []
          · have hlen : (kids D Pr kx skip m).length = 0 := by rw [e]; rfl
            rw [hlen] at KA
            have HN : Hid (cnt (fun k => kids D Pr k skip m) ((E0 :: D).take (j + 1)) = ct) := by show _ = _; rw [hct, e]; rfl
            have HFN := hide (HF.out.1 e)
            clear hct e hlen hkl
            go_wp2_with (first
              | (go_at_call 25; refine KA.out.mono ?_; rintro e w4 ⟨⟨a, c, rfl, _⟩, hb4⟩; have hb4' : Below w3.heap.size w3 w4 := HB.out.trans ⟨hb4.os, hb4.tape, hb4.output, hb4.size, fun q hq => hb4.block q (Nat.lt_of_lt_of_le hq HB.out.size)⟩; have HB4 := hide hb4'; have LK := hide (HC.out.look w4 (LE.out w4 hb4') kx); rw [HFN.out] at LK; clear hb4 hb4')
              | (go_at_call 26; refine LK.out.mono ?_; rintro e w5 ⟨rfl, hb5⟩; have hb5' : Below w3.heap.size w3 w5 := HB4.out.trans ⟨hb5.os, hb5.tape, hb5.output, hb5.size, fun q hq => hb5.block q (Nat.lt_of_lt_of_le hq HB4.out.size)⟩; have HB5 := hide hb5'; clear hb5 hb5'))
            go_roundw
            case rel => exact ⟨j + 1, by omega, by go_num, by rw [HN.out], HB5.out⟩
            case measure => simp [intOf]; omega
          · have HN : Hid (cnt (fun k => kids D Pr k skip m) ((E0 :: D).take (j + 1)) = ct + 1) := by
              show _ = _
              rw [hct, if_neg (by simpa using e)]
            obtain ⟨a', c', hfs, hst⟩ := HF.out.2 e
            have HFS := hide hfs
            have HST := hide hst
            have hlp : 0 < (kids D Pr kx skip m).length := by
              cases h : kids D Pr kx skip m with
              | nil => exact absurd h e
              | cons x l => simp
            obtain ⟨L, hL⟩ : ∃ L, L = (kids D Pr kx skip m).length := ⟨_, rfl⟩
            have HL := hide hL
            rw [← hL] at KA hlp hkl HFS
            clear hct e hfs hst hL
            have hne : ((L : Int) == 0) = false := by simp; omega
            go_wp2_with (first
              | (go_at_call 25; refine KA.out.mono ?_; rintro e w4 ⟨⟨a, c, rfl, hs4⟩, hb4⟩; have hb4' : Below w3.heap.size w3 w4 := HB.out.trans ⟨hb4.os, hb4.tape, hb4.output, hb4.size, fun q hq => hb4.block q (Nat.lt_of_lt_of_le hq HB.out.size)⟩; have HB4 := hide hb4'; have HS4 := hide hs4; have LK := hide (HC.out.look w4 (LE.out w4 hb4') kx); rw [HFS.out] at LK; clear hb4 hb4' hs4)
              | (go_at_call 26; refine LK.out.mono ?_; rintro e w5 ⟨rfl, hb5⟩; have hb5' : Below w3.heap.size w3 w5 := HB4.out.trans ⟨hb5.os, hb5.tape, hb5.output, hb5.size, fun q hq => hb5.block q (Nat.lt_of_lt_of_le hq HB4.out.size)⟩; have HB5 := hide hb5'; have EQ := hide (eqs_any a' a c' c (kids D Pr kx skip m) w5 (by rw [← HL.out]; omega) (HST.out.below (LE.out w5 hb5')) (HS4.out.below hb5)); rw [← HL.out] at EQ; clear hb5 hb5')
              | (go_at_call 27; refine EQ.out.mono ?_; rintro e w6 ⟨rfl, hb6⟩; have hb6' : Below w3.heap.size w3 w6 := HB5.out.trans ⟨hb6.os, hb6.tape, hb6.output, hb6.size, fun q hq => hb6.block q (Nat.lt_of_lt_of_le hq HB5.out.size)⟩; have HB6 := hide hb6'; clear hb6 hb6'))
            go_roundw
            case rel => exact ⟨j + 1, by omega, by go_num, by rw [HN.out]; go_num, HB6.out⟩
            case measure => simp [intOf]; omega
        · obtain rfl : j = m + 1 := by omega
          have HB := hide hb
          have ht : (E0 :: D).take (m + 1) = E0 :: D := List.take_of_length_le (by omega)
          rw [ht]
          have LN := hide (HC.out.len wr (LE.out wr hb))
          obtain ⟨ct, hcte⟩ : ∃ ct, ct = cnt (fun k => kids D Pr k skip m) (E0 :: D) := ⟨_, rfl⟩
          rw [← hcte] at LN ⊢
          clear hb hcte ht
          go_wp2_with (go_at_call 28; refine LN.out.mono ?_; rintro e w1 ⟨rfl, hw1⟩; rw [hw1]; clear hw1)
          go_ret
          exact ⟨by simp, LE.out wr HB.out⟩
end Go.Proofs.Ybulkeipw
