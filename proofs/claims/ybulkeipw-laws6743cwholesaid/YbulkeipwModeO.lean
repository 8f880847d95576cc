import Derived.Test.YbulkeipwDone
namespace Go.Proofs.Ybulkeipw
open Go.RowKit
set_option linter.unusedVariables false

theorem OwnS.blk {w : World} {g cap : Nat} {ss : List ByteArray} (h : OwnS w g cap ss) : ∃ cur, Blk w g cur 9 := by obtain ⟨cur, hb, _⟩ := h; exact ⟨cur, hb⟩

set_option maxHeartbeats 2000000 in
/-- removeResource where nothing is shared -/
theorem rm_own {wN w : World} {mp mc n bp bc eb wb r : Nat} {D Pr : List ByteArray} {fc : ByteArray → Option Value} {G : ByteArray → Nat × Nat} {cws : Array Value} {rm sh : Value} (st : Filled wN mp mc D Pr n (some bp) (some bc) fc G w) (hpc : mp ≠ mc) (hplt : mp < wN.heap.size) (hclt : mc < wN.heap.size)
    (hD : D.length = n) (hn : n ≤ 4096) (hnd : (E0 :: D).Nodup) (hr : r < n) (hkey : Pr.getD r ByteArray.empty ∈ E0 :: D)
    (hE : Blk w eb #[ptr wb, .map none, rm, .slice none 0 0, sh] 46) (hW : Blk w wb cws 38) (h2 : cws[2]? = some (ptr mp)) (h3 : cws[3]? = some (ptr mc)) (hel : eb < wN.heap.size) (hwl : wb < wN.heap.size) :
    Calls Yba.prog 7 #[ptr eb, .string (D.getD r ByteArray.empty)] w fun e w' => e = .returned (.tuple #[]) ∧ Done w' mp mc n D Pr r ∧ (∃ h c, OwnS w' h c [D.getD r ByteArray.empty] ∧ Blk w' eb #[ptr wb, .map none, rm, .slice (some ⟨h, 0, none⟩) 1 c, sh] 46) ∧ Fr (fun x => wN.heap.size ≤ x ∨ x = mp ∨ x = mc ∨ x = eb) w w' := by
  obtain ⟨id, hid⟩ : ∃ x, x = D.getD r ByteArray.empty := ⟨_, rfl⟩
  obtain ⟨pk, hpk⟩ : ∃ x, x = Pr.getD r ByteArray.empty := ⟨_, rfl⟩
  rw [← hid]
  have hd := (List.nodup_cons.1 hnd).2
  have hpid : par D Pr n id = some (.string pk) := by rw [hid, hpk]; exact par_at hd hr (by omega)
  have hmp : Cow w mp 93 (some bp) none n true false := st.pp.1
  have hfp : MapF w bp (par D Pr n) := st.pp.2
  have hmem : id ∈ kid D Pr n pk := by rw [hid, hpk]; exact id_mem hr
  have hne : kid D Pr n pk ≠ [] := fun e => by rw [e] at hmem; simp at hmem
  have hkl : (kid D Pr n pk).length ≤ n := kids_len D Pr pk (-1) n
  have hemp : eb ≠ mp := hE.ne hmp (by decide)
  have hemc : eb ≠ mc := hE.ne (st.cc.1 : Cow w mc 88 _ _ _ _ _) (by decide)
  have hwmp : wb ≠ mp := hW.ne hmp (by decide)
  have hwmc : wb ≠ mc := hW.ne (st.cc.1 : Cow w mc 88 _ _ _ _ _) (by decide)
  have hbp : wN.heap.size ≤ bp := st.bpl bp rfl
  have hbc : wN.heap.size ≤ bc := st.bcl bc rfl
  have hbpc : bp ≠ bc := fun e => st.bpc bp rfl (by rw [e])
  have hget := pPS_get st.pp id
  rw [hpid, Option.getD_some] at hget
  have hwN := st.fr.size
  have hcp1 : 1 ≤ cnt (kid D Pr n) (E0 :: D) := cnt_pos (p := pk) (by cases h : kid D Pr n pk with | nil => exact absurd h hne | cons a l => rfl) _ (by rw [hpk]; exact hkey)
  have hcp2 := cnt_le (kid D Pr n) (E0 :: D)
  have hcp3 : (E0 :: D).length = n + 1 := by simp [hD]
  have hcg := cnt_gone (Pr := Pr) hD hnd hr hkey
  rw [← hpk] at hcg
  refine (res7 hE hW h2 h3 (fun x => wN.heap.size ≤ x ∨ x = mp ∨ x = mc) (by omega) (by omega)
    (fun w2 => Cow w2 mp 93 (some bp) none ((n : Int) - 1) true false ∧ MapF w2 bp (fun j => if j = id then none else par D Pr n j) ∧ Fr (fun x => x = mp ∨ some bp = some x) w w2)
    (fun w4 => ∀ W, Fr (fun x => x = eb) w4 W → Done W mp mc n D Pr r) hget ?_ ?_).mono ?_
  · intro w1 hb1
    refine (pdel_own (pcow_below hmp hb1) (hfp.congr (hb1.block bp hfp.lt)) (by omega) (by omega) id (by rw [hpid]; rfl)).mono ?_
    rintro e w2 ⟨rfl, hc2, hm2, hf2⟩
    refine ⟨rfl, ?_, hc2, hm2, ?_⟩
    · exact (Fr.of_below hb1).trans (hf2.mono (fun x _ hx => by omega))
    · exact (Fr.of_below hb1).trans (hf2.mono (fun x _ hx => hx.elim (fun h => .inl h) (fun h => .inr (by rw [h]))))
  · rintro w2 w3 q ⟨m1, m2, m3⟩ hb3 hq1 hq2 hq3
    have hf3 : Fr (fun x => x = mp ∨ some bp = some x) w w3 := m3.trans (Fr.of_below hb3)
    obtain ⟨pc3, kk3, fr3⟩ := st.half hpc hplt hclt hf3
    have c3 : Cow w3 mc 88 (some bc) none (cnt (kid D Pr n) (E0 :: D)) true false := pc3.1
    have f3 : MapF w3 bc fc := pc3.2
    have p3 : Cow w3 mp 93 (some bp) none ((n : Int) - 1) true false := pcow_below m1 hb3
    have g3 : MapF w3 bp (fun j => if j = id then none else par D Pr n j) := m2.congr (hb3.block bp m2.lt)
    have hE3 : Blk w3 eb #[ptr wb, .map none, rm, .slice none 0 0, sh] 46 := hE.fr hf3 (fun h => by rcases h with h | h; exact hemp h; exact absurd (Option.some.inj h) (by omega))
    have hs23 := m3.size
    have hs3 := hb3.size
    have hGlo := kk3.lo pk hne
    have hGown := kk3.own pk hne
    obtain ⟨curG, hGb⟩ := hGown.blk
    have n1 : (G pk).1 ≠ mp := hGb.ne p3 (by decide)
    have n2 : (G pk).1 ≠ mc := hGb.ne c3 (by decide)
    have n3 : (G pk).1 ≠ bp := hGb.ne_map g3
    have n4 : (G pk).1 ≠ bc := hGb.ne_map f3
    have n5 : (G pk).1 ≠ eb := hGb.ne hE3 (by decide)
    -- the end, from w3 to W
    have fin : ∀ (v : Option Value) (n' : Int) (W : World), Fr (fun x => x = (G pk).1 ∨ x = mc ∨ x = bc ∨ x = eb) w3 W → Cow W mc 88 (some bc) none n' true false → MapF W bc (fun j => if j = pk then v else fc j) → n' = cnt (fun k => kids D Pr k r n) (E0 :: D) →
        ((kids D Pr pk r n = [] → v = none) ∧ (kids D Pr pk r n ≠ [] → ∃ a c, v = some (.slice a (kids D Pr pk r n).length c) ∧ Strs W a (kids D Pr pk r n))) → Done W mp mc n D Pr r := by
      intro v n' W hW' hc' hm' hn' hv
      have pW : Cow W mp 93 (some bp) none ((n : Int) - 1) true false := Blk.fr p3 hW' (by omega)
      have gW : MapF W bp (fun j => if j = id then none else par D Pr n j) := g3.fr hW' (by omega)
      refine done_of (v := v) (fc := fc) hD hnd hr (hid ▸ ansP_plain pW gW) (hpk ▸ ansC_plain hc' hm') hn' (hpk ▸ kk3.rest (fun k hk hkne => ?_)) (hpk ▸ hv)
      obtain ⟨cu, hcu⟩ := (kk3.own k hkne).blk
      have q1 : (G k).1 ≠ (G pk).1 := fun e => hk (kk3.inj k pk hkne hne e)
      have q2 : (G k).1 ≠ mc := hcu.ne c3 (by decide)
      have q3 : (G k).1 ≠ bc := hcu.ne_map f3
      have q4 : (G k).1 ≠ eb := hcu.ne hE3 (by decide)
      exact (kk3.own k hkne).congr (hW'.block _ (kk3.own k hkne).lt (by omega))
    have hg37 := cPS_get pc3 pk
    rw [kk3.some_ pk hne] at hg37
    have h37 := own37_false hE3 rfl pk hg37
    refine (rem21 (fun g cap w1 => g = (G pk).1 ∧ cap = (G pk).2 ∧ Below w3.heap.size w3 w1) (fun g cap ss' w' => Fr (fun x => wN.heap.size ≤ x ∨ x = mp ∨ x = mc) w w' ∧ (ss' = kids D Pr pk r n → ∀ W, Fr (fun x => x = eb) w' W → Done W mp mc n D Pr r)) (by omega) hmem (h37.mono ?_) ?_ ?_ ?_).mono ?_
    · rintro e w1 ⟨rfl, hb⟩
      exact ⟨_, _, rfl, hGown.congr (hb.block _ hGown.lt), rfl, rfl, hb⟩
    · rintro g cap w1 ⟨rfl, rfl, hb⟩
      rw [hb.cell (p := ⟨q, 0, none⟩) hq2]; exact hq3
    · rintro g cap w1 w2' ⟨rfl, rfl, hb⟩ hfg ho
      have hf' : Fr (fun x => x = (G pk).1) w3 w2' := (Fr.of_below hb).trans hfg
      refine (cdel_own (Blk.fr c3 hf' (fun h => n2 h.symm)) (f3.fr hf' (fun h => n4 h.symm)) (by omega) (by omega) pk (by rw [kk3.some_ pk hne]; rfl)).mono ?_
      rintro e w' ⟨rfl, hc', hm', hfr'⟩
      refine ⟨rfl, ?_, fun hss W hWf => ?_⟩
      · exact ⟨hfr'.os.trans (hf'.os.trans hf3.os), hfr'.tape.trans (hf'.tape.trans hf3.tape), hfr'.output.trans (hf'.output.trans hf3.output), by have := hfr'.size; have := hf'.size; have := hf3.size; omega, fun x hx hnn => by
            rw [hfr'.block x (by have := hf'.size; have := hf3.size; omega) (by omega), hf'.block x (by have := hf3.size; omega) (by omega), hf3.block x hx (fun h => by rcases h with h | h; omega; exact absurd (Option.some.inj h) (by omega))]⟩
      · have hWW : Fr (fun x => x = (G pk).1 ∨ x = mc ∨ x = bc ∨ x = eb) w3 W := (hf'.mono (fun x _ h => .inl h)).trans ((hfr'.mono (fun x _ h => by omega)).trans (hWf.mono (fun x _ h => by omega)))
        have nb : bc ≠ eb := by omega
        refine fin none _ W hWW (Blk.fr hc' hWf (fun h => hemc h.symm)) (hm'.fr hWf (fun h => nb h)) ?_ ⟨fun _ => rfl, fun h => absurd hss.symm h⟩
        rw [hcg, if_pos hss.symm]; omega
    · rintro g cap w1 w2' ss' ⟨rfl, rfl, hb⟩ hfg ho hsne
      have hf' : Fr (fun x => x = (G pk).1) w3 w2' := (Fr.of_below hb).trans hfg
      refine (cset_own (Blk.fr c3 hf' (fun h => n2 h.symm)) (f3.fr hf' (fun h => n4 h.symm)) (by omega) (by omega) pk _ _ _).mono ?_
      rintro e w' ⟨rfl, hc', hm', hfr'⟩
      rw [kk3.some_ pk hne] at hc'
      refine ⟨rfl, ?_, fun hss W hWf => ?_⟩
      · exact ⟨hfr'.os.trans (hf'.os.trans hf3.os), hfr'.tape.trans (hf'.tape.trans hf3.tape), hfr'.output.trans (hf'.output.trans hf3.output), by have := hfr'.size; have := hf'.size; have := hf3.size; omega, fun x hx hnn => by
            rw [hfr'.block x (by have := hf'.size; have := hf3.size; omega) (by omega), hf'.block x (by have := hf3.size; omega) (by omega), hf3.block x hx (fun h => by rcases h with h | h; omega; exact absurd (Option.some.inj h) (by omega))]⟩
      · have hWW : Fr (fun x => x = (G pk).1 ∨ x = mc ∨ x = bc ∨ x = eb) w3 W := (hf'.mono (fun x _ h => .inl h)).trans ((hfr'.mono (fun x _ h => by omega)).trans (hWf.mono (fun x _ h => by omega)))
        have nb : bc ≠ eb := by omega
        have hoW : OwnS W (G pk).1 (G pk).2 ss' := (ho.congr (hfr'.block _ ho.lt (by omega))).congr (hWf.block _ (Nat.lt_of_lt_of_le ho.lt hfr'.size) n5)
        refine fin _ _ W hWW (Blk.fr hc' hWf (fun h => hemc h.symm)) (hm'.fr hWf (fun h => nb h)) ?_ ⟨fun h => absurd (hss.trans h) hsne, fun _ => ⟨_, _, by rw [hss], by rw [← hss]; exact hoW.strs⟩⟩
        rw [hcg, if_neg (fun h => hsne (hss.trans h))]; simp
    · rintro e w4 ⟨rfl, i, g, cap, hi, hget', hf4, hP4⟩
      refine ⟨rfl, hf4, hP4 ?_⟩
      rw [hpk]
      rw [hpk] at hi hget'
      exact (kids_on hD hd hr hi (by rw [hget', hid])).symm
  · rintro e w' ⟨rfl, w4, h, c, hP, hf4, hfe, hh, ho, hb⟩
    refine ⟨rfl, hP w' hfe, ⟨h, c, ho, hb⟩, ?_⟩
    exact (hf4.mono (fun x _ hx => by omega)).trans (hfe.mono (fun x _ hx => by omega))
end Go.Proofs.Ybulkeipw
