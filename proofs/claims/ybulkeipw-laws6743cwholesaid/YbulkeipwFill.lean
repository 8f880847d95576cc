import Derived.Test.YbulkeipwFillA
namespace Go.Proofs.Ybulkeipw
open Go.RowKit
set_option linter.unusedVariables false

set_option maxRecDepth 20000 in
set_option maxHeartbeats 2000000 in
theorem fill_any {w : World} {wb mp mc n : Nat} {cs : Array Value} {D Pr : List ByteArray} {ad ap : Option Addr} {cd cp : Nat} (hW : Blk w wb cs 38) (h2 : cs[2]? = some (ptr mp)) (h3 : cs[3]? = some (ptr mc)) (hp : Cow w mp 93 none none 0 false false) (hc : Cow w mc 88 none none 0 false false)
    (hD : D.length = n) (hP : Pr.length = n) (hn : n ≤ 4096) (hn0 : 0 < n) (sD : Strs w ad D) (sP : Strs w ap Pr) (hnd : (E0 :: D).Nodup) (hkeys : ∀ i, i < n → Pr.getD i ByteArray.empty ∈ E0 :: D) :
    Calls Yba.prog 6 #[ptr wb, .slice ad n cd, .slice ap n cp] w fun e w' => e = .returned (.tuple #[]) ∧ ∃ bp bc fc G, Filled w mp mc D Pr n (some bp) (some bc) fc G w' := by
  have hwlt := hW.lt
  have hwp : wb ≠ mp := hW.ne hp (by decide)
  have hwc : wb ≠ mc := hW.ne hc (by decide)
  have hpc : mp ≠ mc := Blk.ne hp hc (by decide)
  have hplt : mp < w.heap.size := Blk.lt hp
  have hclt : mc < w.heap.size := Blk.lt hc
  obtain ⟨gd, od, rfl, hgd, rD⟩ := sD (by intro e; simp [e] at hD; omega)
  obtain ⟨gp, op, rfl, hgp, rP⟩ := sP (by intro e; simp [e] at hP; omega)
  have hgdp : ∀ x, (x = mp ∨ x = mc) → gd ≠ x ∧ gp ≠ x := by
    intro x hx
    have e0 := rD 0 (by omega)
    have e1 := rP 0 (by omega)
    refine ⟨fun e => ?_, fun e => ?_⟩
    · subst e
      rcases hx with rfl | rfl
      · have := Blk.cell hp (od + 0); rw [e0] at this; revert this; generalize od + 0 = q; intro this
        match q with
        | 0 => simp at this
        | 1 => simp at this
        | 2 => simp at this
        | 3 => simp at this
        | 4 => simp at this
        | q + 5 => simp at this
      · have := Blk.cell hc (od + 0); rw [e0] at this; revert this; generalize od + 0 = q; intro this
        match q with
        | 0 => simp at this
        | 1 => simp at this
        | 2 => simp at this
        | 3 => simp at this
        | 4 => simp at this
        | q + 5 => simp at this
    · subst e
      rcases hx with rfl | rfl
      · have := Blk.cell hp (op + 0); rw [e1] at this; revert this; generalize op + 0 = q; intro this
        match q with
        | 0 => simp at this
        | 1 => simp at this
        | 2 => simp at this
        | 3 => simp at this
        | 4 => simp at this
        | q + 5 => simp at this
      · have := Blk.cell hc (op + 0); rw [e1] at this; revert this; generalize op + 0 = q; intro this
        match q with
        | 0 => simp at this
        | 1 => simp at this
        | 2 => simp at this
        | 3 => simp at this
        | 4 => simp at this
        | q + 5 => simp at this
  have st0 : Filled w mp mc D Pr 0 none none (fun _ => none) (fun _ => (0, 0)) w := by
    refine ⟨⟨rfl, fun _ => rfl, hp⟩, ⟨?_, fun _ => rfl, hc⟩, ⟨fun _ _ => rfl, fun k h => absurd rfl h, fun k h => absurd rfl h, fun k h => absurd rfl h, fun k _ h => absurd rfl h⟩, fun x h => (by cases h), fun x h => (by cases h), fun x h => (by cases h), fun h => absurd rfl h, Fr.refl _ _⟩
    have : ∀ K : List ByteArray, cnt (kid D Pr 0) K = 0 := fun K => by
      induction K with
      | nil => rfl
      | cons k K ih => rw [cnt, ih]; rfl
    rw [this]; rfl
  go_enter Yba.func6, Yba.ntmps6
  go_wp2
  go_loopw [6] (fun i wr => ∃ (m : Nat) (bp bc : Option Nat) (fc : ByteArray → Option Value) (G : ByteArray → Nat × Nat), m ≤ n ∧ i = .int .i64 m ∧ Filled w mp mc D Pr m bp bc fc G wr) (fun i _ => n - (intOf i).toNat)
  case atStart => exact ⟨0, none, none, _, _, by omega, rfl, st0⟩
  case round =>
    obtain ⟨m, bp, bc, fc, G, hm, rfl, st⟩ := hrel
    clear st0
    by_cases hlt : m < n
    · obtain ⟨xd, hxd⟩ : ∃ x, x = D.getD m ByteArray.empty := ⟨_, rfl⟩
      obtain ⟨xp, hxp⟩ : ∃ x, x = Pr.getD m ByteArray.empty := ⟨_, rfl⟩
      have hwr := st.fr.size
      have keep : ∀ w' : World, Fr (fun x => x = mp ∨ x = mc) w w' → w'.cell? ⟨wb, 2, none⟩ = some (ptr mp) ∧ w'.cell? ⟨wb, 3, none⟩ = some (ptr mc) ∧ w'.cell? ⟨gd, od + m, none⟩ = some (.string xd) ∧ w'.cell? ⟨gp, op + m, none⟩ = some (.string xp) := fun w' hf => by
        have hb := hW.fr hf (by omega)
        refine ⟨(hb.cell 2).trans h2, (hb.cell 3).trans h3, ?_, ?_⟩
        · rw [World.cell?_of_block (w := w) (a := ⟨gd, od + m, none⟩) (hf.block gd hgd (fun h => (hgdp gd h).1 rfl)), hxd]; exact rD m (by omega)
        · rw [World.cell?_of_block (w := w) (a := ⟨gp, op + m, none⟩) (hf.block gp hgp (fun h => (hgdp gp h).2 rfl)), hxp]; exact rP m (by omega)
      have KEEP : Hid (∀ w' : World, Fr (fun x => x = mp ∨ x = mc) w w' → w'.cell? ⟨wb, 2, none⟩ = some (ptr mp) ∧ w'.cell? ⟨wb, 3, none⟩ = some (ptr mc) ∧ w'.cell? ⟨gd, od + m, none⟩ = some (.string xd) ∧ w'.cell? ⟨gp, op + m, none⟩ = some (.string xp)) := keep
      have HXD : Hid (xd = D.getD m ByteArray.empty) := hxd
      have HXP : Hid (xp = Pr.getD m ByteArray.empty) := hxp
      have hkl := kids_len D Pr xp (-1) m
      have hcl := cnt_le (kid D Pr m) (E0 :: D)
      have hcl2 : (E0 :: D).length = n + 1 := by simp [hD]
      have ST : Hid (Filled w mp mc D Pr m bp bc fc G wr) := st
      have HK : Hid (Pr.getD m ByteArray.empty ∈ E0 :: D) := hkeys m hlt
      have HND : Hid ((E0 :: D).Nodup) := hnd
      clear keep hxd hxp st hkeys hnd rD rP sD sP hgdp hp hc hW
      go_wp2
      go_region_held3 (fun w' => w'.cell? ⟨wb, 2, none⟩ = some (ptr mp) ∧ w'.cell? ⟨gd, od + m, none⟩ = some (.string xd) ∧ w'.cell? ⟨gp, op + m, none⟩ = some (.string xp))
        (first | exact ⟨(KEEP.out wr ST.out.fr).1, (KEEP.out wr ST.out.fr).2.2.1, (KEEP.out wr ST.out.fr).2.2.2⟩ | assumption)
        (first | (go_at_call 16; refine (pPS_set (w := wr.drew) ST.out.pp (by omega) (by omega) xd xp).mono ?_; rintro e w1 ⟨rfl, bp', p1, p2, p3, p4⟩; replace p4 : Fr (fun x => x = mp ∨ bp = some x) wr w1 := ⟨p4.os, p4.tape, p4.output, p4.size, p4.block⟩; replace p2 : bp = none → wr.heap.size ≤ bp' := p2; have hk1 : w1.cell? ⟨wb, 2, none⟩ = some (ptr mp) ∧ w1.cell? ⟨gd, od + m, none⟩ = some (.string xd) ∧ w1.cell? ⟨gp, op + m, none⟩ = some (.string xp) := ⟨(KEEP.out w1 (ST.out.half hpc hplt hclt p4).2.2).1, (KEEP.out w1 (ST.out.half hpc hplt hclt p4).2.2).2.2.1, (KEEP.out w1 (ST.out.half hpc hplt hclt p4).2.2).2.2.2⟩))
      obtain ⟨hcc, hkk, hfw⟩ := ST.out.half hpc hplt hclt p4
      obtain ⟨ca, cc, hcur, hcn, hcr⟩ := hkk.cur xp
      have HCC : Hid (PS w1 mc 88 bc (cnt (kid D Pr m) (E0 :: D)) fc) := hcc
      have HFW : Hid (Fr (fun x => x = mp ∨ x = mc) w w1) := hfw
      have P1 : Hid (∀ x, bp = some x → bp' = x) := p1
      have P2 : Hid (bp = none → wr.heap.size ≤ bp') := p2
      have P3 : Hid (PS w1 mp 93 (some bp') (if (par D Pr m xd).isSome then (m : Int) else m + 1) (fun j => if j = xd then some (.string xp) else par D Pr m j)) := p3
      have P4 : Hid (Fr (fun x => x = mp ∨ bp = some x) wr w1) := p4
      have HCUR : Hid ((fc xp).getD (.slice none 0 0) = .slice ca (kid D Pr m xp).length cc) := hcur
      have HCN : Hid (ca = none → (kid D Pr m xp).length = 0 ∧ cc = 0) := hcn
      have HCR : Hid (∀ ad, ca = some ad → ∀ W : World, (∀ x, x < w1.heap.size → W.heap[x]? = w1.heap[x]?) → ∀ j u, ((kid D Pr m xp).map Value.string)[j]? = some u → W.cell? (ad.add j) = some u) := hcr
      have hs1 : w.heap.size ≤ w1.heap.size := hfw.size
      clear hcc hkk hfw p1 p2 p3 p4 hcur hcn hcr hk1
      go_wp2
      go_region_held3 (fun w' => w'.cell? ⟨wb, 3, none⟩ = some (ptr mc) ∧ w'.cell? ⟨gp, op + m, none⟩ = some (.string xp))
        (first | exact ⟨(KEEP.out w1 HFW.out).2.1, (KEEP.out w1 HFW.out).2.2.2⟩ | assumption)
        (first | (go_at_call 17; refine (cPS_get (w := w1.drew) HCC.out xp).mono ?_; rintro e w2 ⟨rfl, hb2⟩; rw [HCUR.out]; replace hb2 : Below w1.heap.size w1 w2 := ⟨hb2.os, hb2.tape, hb2.output, hb2.size, hb2.block⟩; have hk2 : w2.cell? ⟨wb, 3, none⟩ = some (ptr mc) ∧ w2.cell? ⟨gp, op + m, none⟩ = some (.string xp) := ⟨(KEEP.out w2 (HFW.out.trans (Fr.of_below hb2))).2.1, (KEEP.out w2 (HFW.out.trans (Fr.of_below hb2))).2.2.2⟩))
      obtain ⟨i0, hi, hz0, hz1, hz2⟩ := info_parts Yba.info9
      have HI : Hid (Yba.prog.info? 9 = some i0) := hi
      have HZ1 : Hid (i0.size = 1) := hz1
      obtain ⟨L, hL⟩ : ∃ L, L = (kid D Pr m xp).length := ⟨_, rfl⟩
      have HL : Hid (L = (kid D Pr m xp).length) := hL
      rw [← hL] at hkl ⊢
      have HB2 : Hid (Below w1.heap.size w1 w2) := hb2
      have hs2 : w1.heap.size ≤ w2.heap.size := hb2.size
      have hmk : (Instr.makeSlice 22 (.int .i64 0) (.int .i64 ((L : Int) + 1))).run Yba.prog w2 = .ok (.slice (some ⟨w2.heap.size, 0, none⟩) 0 (L + 1)) (w2.alloc (.cells (madeCells #[.string E0] (L + 1)) 9)) := by
        have := make22 (L + 1) (by omega) w2
        simpa using this
      have hown := World.ownsRow_made (base := w1.heap.size) (e := 9) (size := 1) w2 (madeCells #[Value.string E0] (L + 1)) (L + 1) hs2 (by simp [maxLen]; omega) (by simp [madeCells])
      clear hi hz0 hz1 hz2 hL hb2 hk2
      have hc4 : ∀ W : World, Below w1.heap.size w1 W → W.cell? ⟨gd, od + m, none⟩ = some (.string xd) := fun W hW => (KEEP.out W (HFW.out.trans (Fr.of_below hW))).2.2.1
      have HC4 : Hid (∀ W : World, Below w1.heap.size w1 W → W.cell? ⟨gd, od + m, none⟩ = some (.string xd)) := hc4
      clear hc4
      go_wp2_with (first
        | (at_builtin; refine wpList_append_fits_any _ rfl (.tmp 41) (.tmp 42) 22 rfl w1.heap.size 9 i0 1 Yba.underlying22 HI.out HZ1.out w2.heap.size 0 (L + 1) [] rfl hown ca L cc ((kid D Pr m xp).map Value.string) rfl (by simp [HL.out]) (by rw [HL.out]; exact HCN.out) (fun ad had => HCR.out ad had _ (fun x hx => by rw [Below.heap_alloc _ _ _ (Nat.lt_of_lt_of_le hx hs2)]; exact HB2.out.block x hx)) (strs_oneCell _) (by omega) ?_
           intro w3 hown1 hgrow1
           simp only [Nat.zero_add, List.nil_append] at hown1
           have hb3 : Below w1.heap.size w1 w3 := (HB2.out.alloc hs2 _).grown hgrow1 (by simp; omega) (fun k hk => by simp at hk; omega)
           have hxd3 := HC4.out w3 hb3
           have HB3 : Hid (Below w1.heap.size w1 w3) := hb3
           have hs3 : w2.heap.size < w3.heap.size := (hown1.lt _ rfl).2
           have HO1 := hide hown1
           clear hmk hown hgrow1 hb3 hown1)
        | (at_builtin; refine wpList_append_fits _ rfl (.tmp 44) (.tmp 49) 22 rfl w1.heap.size 9 i0 1 Yba.underlying22 HI.out HZ1.out w2.heap.size L (L + 1) _ rfl (owns_alloc HO1.out _) ⟨w3.heap.size, 0, none⟩ 1 1 [.string xd] rfl rfl (one_new _ _ _) (by simp [Value.oneCell']) (by omega) ?_
           intro w4 hown4 hgrow4
           have hb4 : Below w1.heap.size w1 w4 := (HB3.out.alloc (by omega) _).grown hgrow4 (by simp; omega) (fun k hk => by simp at hk; omega)
           have hs4 : w3.heap.size < w4.heap.size := by have := hgrow4.size; simp at this; omega
           have HB4 := hide hb4
           have HO4 := hide hown4
           clear hgrow4 hb4 hown4 HO1 hxd3))
      have hcc4 : PS w4 mc 88 bc (cnt (kid D Pr m) (E0 :: D)) fc := HCC.out.below HB4.out
      have HCC4 := hide hcc4
      clear hcc4
      go_region_held3 (fun w' => w'.cell? ⟨wb, 3, none⟩ = some (ptr mc) ∧ w'.cell? ⟨gp, op + m, none⟩ = some (.string xp))
        (first | exact ⟨(KEEP.out w4 (HFW.out.trans (Fr.of_below HB4.out))).2.1, (KEEP.out w4 (HFW.out.trans (Fr.of_below HB4.out))).2.2.2⟩ | assumption)
        (first | (go_at_call 18; refine (cPS_set (w := w4.drew) HCC4.out (by omega) (by omega) xp _ _ _).mono ?_; rintro e w5 ⟨rfl, bc', c1, c2, c3, c4⟩; replace c4 : Fr (fun x => x = mc ∨ bc = some x) w4 w5 := ⟨c4.os, c4.tape, c4.output, c4.size, c4.block⟩; replace c2 : bc = none → w4.heap.size ≤ bc' := c2; have hk5 : w5.cell? ⟨wb, 3, none⟩ = some (ptr mc) ∧ w5.cell? ⟨gp, op + m, none⟩ = some (.string xp) := ⟨(KEEP.out w5 (ST.out.fr5 (HFW.out.trans (Fr.of_below HB4.out)) c4)).2.1, (KEEP.out w5 (ST.out.fr5 (HFW.out.trans (Fr.of_below HB4.out)) c4)).2.2.2⟩))
      have ho : OwnS w4 w2.heap.size (L + 1) (kid D Pr m xp ++ [xd]) := by
        have h := HO4.out
        have h' : w4.ownsRow w1.heap.size 9 1 (.slice (some ⟨w2.heap.size, 0, none⟩) (L + 1) (L + 1)) (L + 1) ((kid D Pr m xp ++ [xd]).map Value.string) := by rw [List.map_append]; exact h
        obtain ⟨g', cap', e, _, ho⟩ := ownS_of h' (by simp)
        simp only [Value.slice.injEq, Option.some.injEq, Addr.mk.injEq] at e
        obtain ⟨⟨rfl, _⟩, _, rfl⟩ := e
        exact ho
      have hstep := ST.out.step (w1 := w1) (w4 := w4) (w5 := w5) (bp' := bp') (bc' := bc') (gn := w2.heap.size) (cap := L + 1) hpc hplt hclt hD hlt HND.out HK.out HXD.out HXP.out P1.out P2.out P3.out P4.out HB4.out (by omega) ho c1 c2 (by simpa [HL.out] using c3) c4
      clear ho c1 c2 c3 c4 hk5
      go_wp2
      go_roundw
      · exact ⟨m + 1, _, _, _, _, by omega, by simp, hstep⟩
      · simp only [intOf]; omega
    · obtain rfl : m = n := by omega
      have hb := st.both (by omega)
      cases bp with
      | none => exact absurd rfl hb.1
      | some bp =>
        cases bc with
        | none => exact absurd rfl hb.2
        | some bc =>
          go_wp2
          first | go_end0 | refine bodyPost_ret (results_none rfl _ _ _) rfl ?_
          exact ⟨rfl, bp, bc, fc, G, st⟩
end Go.Proofs.Ybulkeipw
