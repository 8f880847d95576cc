import Derived.Test.YbulkeipwModeO
namespace Go.Proofs.Ybulkeipw
open Go.RowKit
set_option linter.unusedVariables false

theorem blk_ne_obj {w : World} {b m : Nat} {cs : Array Value} {T : TypeId} {es : Array MapEntry} {c : Nat} (h : Blk w b cs T) (hm : w.heap[m]? = some (.map es c)) : b ≠ m := fun e => by
  subst e; unfold Blk at h; rw [h] at hm; cases hm

set_option maxHeartbeats 2000000 in
/-- removeResource on a copy -/
theorem rm_fork {w : World} {mp mc n bp bc eb wb r cm F : Nat} {D Pr : List ByteArray} {fc : ByteArray → Option Value} {G : ByteArray → Nat × Nat} {cws : Array Value} {rm sh : Value}
    (hmp : Cow w mp 93 (some bp) none n false false) (hfp : MapF w bp (par D Pr n)) (hmc : Cow w mc 88 (some bc) none (cnt (kid D Pr n) (E0 :: D)) false false) (hfc : MapF w bc fc) (kk : KidIn w F (kid D Pr n) fc G) (hcm : w.heap[cm]? = some (.map #[] 0)) (hbpc : bp < cm ∧ bc < cm)
    (hD : D.length = n) (hn : n ≤ 4096) (hnd : (E0 :: D).Nodup) (hr : r < n) (hkey : Pr.getD r ByteArray.empty ∈ E0 :: D)
    (hE : Blk w eb #[ptr wb, .map (some cm), rm, .slice none 0 0, sh] 46) (hW : Blk w wb cws 38) (h2 : cws[2]? = some (ptr mp)) (h3 : cws[3]? = some (ptr mc)) :
    Calls Yba.prog 7 #[ptr eb, .string (D.getD r ByteArray.empty)] w fun e w' => e = .returned (.tuple #[]) ∧ Done w' mp mc n D Pr r ∧ w'.heap[cm]? = some (.map #[⟨key2 mc (Pr.getD r ByteArray.empty), .bool true, 0⟩] 1) ∧ (∃ h c, OwnS w' h c [D.getD r ByteArray.empty] ∧ Blk w' eb #[ptr wb, .map (some cm), rm, .slice (some ⟨h, 0, none⟩) 1 c, sh] 46) ∧ Fr (fun x => x = mp ∨ x = mc ∨ x = cm ∨ x = eb) w w' := by
  obtain ⟨id, hid⟩ : ∃ x, x = D.getD r ByteArray.empty := ⟨_, rfl⟩
  obtain ⟨pk, hpk⟩ : ∃ x, x = Pr.getD r ByteArray.empty := ⟨_, rfl⟩
  rw [← hid, ← hpk]
  have hd := (List.nodup_cons.1 hnd).2
  have hpid : par D Pr n id = some (.string pk) := by rw [hid, hpk]; exact par_at hd hr (by omega)
  have hmem : id ∈ kid D Pr n pk := by rw [hid, hpk]; exact id_mem hr
  have hne : kid D Pr n pk ≠ [] := fun e => by rw [e] at hmem; simp at hmem
  have hkl : (kid D Pr n pk).length ≤ n := kids_len D Pr pk (-1) n
  have hemp : eb ≠ mp := hE.ne hmp (by decide)
  have hemc : eb ≠ mc := hE.ne hmc (by decide)
  have hwmp : wb ≠ mp := hW.ne hmp (by decide)
  have hwmc : wb ≠ mc := hW.ne hmc (by decide)
  have hpc : mp ≠ mc := Blk.ne hmp hmc (by decide)
  have hecm : eb ≠ cm := blk_ne_obj hE hcm
  have hwcm : wb ≠ cm := blk_ne_obj hW hcm
  have hpcm : mp ≠ cm := blk_ne_obj hmp hcm
  have hccm : mc ≠ cm := blk_ne_obj hmc hcm
  have hbmp : mp ≠ bp := Blk.ne_map hmp hfp
  have hbmc : mp ≠ bc := Blk.ne_map hmp hfc
  have hcbp : mc ≠ bp := Blk.ne_map hmc hfp
  have hcbc : mc ≠ bc := Blk.ne_map hmc hfc
  have hebp : eb ≠ bp := Blk.ne_map hE hfp
  have hebc : eb ≠ bc := Blk.ne_map hE hfc
  have l1 : mp < w.heap.size := Blk.lt hmp
  have l2 : mc < w.heap.size := Blk.lt hmc
  have l3 : cm < w.heap.size := lt_of_block hcm
  have l4 : eb < w.heap.size := hE.lt
  have l5 : bp < w.heap.size := hfp.lt
  have l6 : bc < w.heap.size := hfc.lt
  have hget := pget_of id (plook_plain hmp hfp id)
  rw [hpid, Option.getD_some] at hget
  have hcp1 : 1 ≤ cnt (kid D Pr n) (E0 :: D) := cnt_pos (p := pk) (by cases h : kid D Pr n pk with | nil => exact absurd h hne | cons a l => rfl) _ (by rw [hpk]; exact hkey)
  have hcp2 := cnt_le (kid D Pr n) (E0 :: D)
  have hcp3 : (E0 :: D).length = n + 1 := by simp [hD]
  have hcg := cnt_gone (Pr := Pr) hD hnd hr hkey
  rw [← hpk] at hcg
  refine (res7 hE hW h2 h3 (fun x => x = mp ∨ x = mc ∨ x = cm) (by omega) (by omega)
    (fun w2 => ∃ c, w.heap.size ≤ c ∧ Cow w2 mp 93 (some bp) (some c) ((n : Int) - 1) false true ∧ MapF w2 c (pone id (.string { data := #[] }) true) ∧ Fr (fun x => x = mp) w w2)
    (fun w4 => ∀ W, Fr (fun x => x = eb) w4 W → Done W mp mc n D Pr r ∧ W.heap[cm]? = some (.map #[⟨key2 mc pk, .bool true, 0⟩] 1)) hget ?_ ?_).mono ?_
  · intro w1 hb1
    refine (pdel_fork (pcow_below hmp hb1) (hfp.congr (hb1.block bp hfp.lt)) (by omega) (by omega) id (by rw [hpid]; rfl)).mono ?_
    rintro e w2 ⟨rfl, ⟨c, hc1, hc2, hm2⟩, hf2⟩
    have hb1s := hb1.size
    exact ⟨rfl, (Fr.of_below hb1).trans (hf2.mono (fun x _ hx => .inl hx)), c, by omega, hc2, hm2, (Fr.of_below hb1).trans hf2⟩
  · rintro w2 w3 q ⟨c, hcl, m1, m2, m3⟩ hb3 hq1 hq2 hq3
    have hf3 : Fr (fun x => x = mp) w w3 := m3.trans (Fr.of_below hb3)
    have c3 : Cow w3 mc 88 (some bc) none (cnt (kid D Pr n) (E0 :: D)) false false := Blk.fr hmc hf3 (by omega)
    have f3 : MapF w3 bc fc := hfc.fr hf3 (by omega)
    have kk3 : KidIn w3 F (kid D Pr n) fc G := kk.fr hf3 (fun k hk h => by
      obtain ⟨cu, hcu⟩ := (kk.own k hk).blk
      exact hcu.ne hmp (by decide) h)
    have p3 : Cow w3 mp 93 (some bp) (some c) ((n : Int) - 1) false true := pcow_below m1 hb3
    have g3 : MapF w3 bp (par D Pr n) := hfp.fr hf3 (by omega)
    have gc3 : MapF w3 c (pone id (.string { data := #[] }) true) := m2.congr (hb3.block c m2.lt)
    have hE3 : Blk w3 eb #[ptr wb, .map (some cm), rm, .slice none 0 0, sh] 46 := hE.fr hf3 hemp
    have hcm3 : w3.heap[cm]? = some (.map #[] 0) := (hf3.block cm l3 (by omega)).trans hcm
    have s2 := m3.size
    have s3 := hb3.size
    have lc := m2.lt
    have fin : ∀ (v : Option Value) (n' : Int) (w' W : World), Fr (fun x => x = mc ∨ x = cm) w3 w' → Fr (fun x => x = eb) w' W → AnsC W mc n' (fun j => if j = pk then v else fc j) → n' = cnt (fun k => kids D Pr k r n) (E0 :: D) →
        ((kids D Pr pk r n = [] → v = none) ∧ (kids D Pr pk r n ≠ [] → ∃ a c, v = some (.slice a (kids D Pr pk r n).length c) ∧ Strs W a (kids D Pr pk r n))) → Done W mp mc n D Pr r := by
      intro v n' w' W hw' hWe hC hn' hv
      have hW' : Fr (fun x => x = mc ∨ x = cm ∨ x = eb) w3 W := (hw'.mono (fun x _ h => by omega)).trans (hWe.mono (fun x _ h => by omega))
      have pW : Cow W mp 93 (some bp) (some c) ((n : Int) - 1) false true := Blk.fr p3 hW' (by omega)
      have gW : MapF W bp (par D Pr n) := g3.fr hW' (by omega)
      have gcW : MapF W c (pone id (.string { data := #[] }) true) := gc3.fr hW' (by omega)
      refine done_of (v := v) (fc := fc) hD hnd hr (hid ▸ ansP_gone pW gW gcW) (hpk ▸ hC) hn' (hpk ▸ kk3.rest (fun k hk hkne => ?_)) (hpk ▸ hv)
      obtain ⟨cu, hcu⟩ := (kk3.own k hkne).blk
      have q2 : (G k).1 ≠ mc := hcu.ne c3 (by decide)
      have q3 : (G k).1 ≠ cm := blk_ne_obj hcu hcm3
      have q4 : (G k).1 ≠ eb := hcu.ne hE3 (by decide)
      exact (kk3.own k hkne).congr (hW'.block _ (kk3.own k hkne).lt (by omega))
    have h37 := own37_true hE3 rfl hcm3 pk c3 f3 (kk3.some_ pk hne) (kk3.own pk hne) (by omega) (by omega)
    refine (rem21 (fun g cap w1 => ∃ c2, w3.heap.size ≤ g ∧ w3.heap.size ≤ c2 ∧ Cow w1 mc 88 (some bc) (some c2) (cnt (kid D Pr n) (E0 :: D)) false true ∧ MapF w1 c2 (cone pk (.slice (some ⟨g, 0, none⟩) (kid D Pr n pk).length cap) false) ∧ w1.heap[cm]? = some (.map #[⟨key2 mc pk, .bool true, 0⟩] 1) ∧ Fr (fun x => x = mc ∨ x = cm) w3 w1 ∧ ∃ cu, Blk w1 g cu 9)
      (fun g cap ss' w' => Fr (fun x => x = mp ∨ x = mc ∨ x = cm) w w' ∧ (ss' = kids D Pr pk r n → ∀ W, Fr (fun x => x = eb) w' W → Done W mp mc n D Pr r ∧ W.heap[cm]? = some (.map #[⟨key2 mc pk, .bool true, 0⟩] 1))) (by omega) hmem (h37.mono ?_) ?_ ?_ ?_).mono ?_
    · rintro e w1 ⟨g', cap', c2, rfl, hg', ho', hc2, hcow, hmap, hcm1, hfr1⟩
      exact ⟨g', cap', rfl, ho', c2, hg', hc2, hcow, hmap, hcm1, hfr1, ho'.blk⟩
    · rintro g cap w1 ⟨c2, hg', hc2, hcow, hmap, hcm1, hfr1, hblk⟩
      rw [World.cell?_of_block (w := w3) (a := ⟨q, 0, none⟩) (hfr1.block q hq2 (by omega))]; exact hq3
    · rintro g cap w1 w2' ⟨c2, hg', hc2, hcow, hmap, hcm1, hfr1, cu, hblk⟩ hfg ho
      have s4 := hfr1.size
      have s5 := hfg.size
      have ng : g ≠ c2 := hblk.ne_map hmap
      have fb : MapF w2' bc fc := (f3.fr hfr1 (by omega)).fr hfg (by omega)
      refine (cdel_again _ _ _ (Blk.fr hcow hfg (by omega)) fb (hmap.fr hfg (fun h => ng h.symm)) (by omega) ⟨pk, by rw [kk3.some_ pk hne]; rfl⟩ (by omega) (by omega)).mono ?_
      rintro e w' ⟨rfl, hc', hm', hfr'⟩
      have hw' : Fr (fun x => x = mc ∨ x = cm) w3 w' := (hfr1.next hfg (fun x hx h => by omega)).next hfr' (fun x hx h => by omega)
      refine ⟨rfl, (hf3.mono (fun x _ h => .inl h)).next hw' (fun x hx h => by omega), fun hss W hWf => ⟨?_, ?_⟩⟩
      · have fbW : MapF W bc fc := (fb.fr hfr' (by omega)).fr hWf (by omega)
        refine fin none _ w' W hw' hWf (ansC_gone (Blk.fr hc' hWf (by omega)) fbW (hm'.fr hWf (by omega))) ?_ ⟨fun _ => rfl, fun h => absurd hss.symm h⟩
        rw [hcg, if_pos hss.symm]; omega
      · have s6 := hfr'.size
        rw [hWf.block cm (by omega) (by omega), hfr'.block cm (by omega) (by omega), hfg.block cm (by omega) (by omega)]; exact hcm1
    · rintro g cap w1 w2' ss' ⟨c2, hg', hc2, hcow, hmap, hcm1, hfr1, cu, hblk⟩ hfg ho hsne
      have s4 := hfr1.size
      have s5 := hfg.size
      have ng : g ≠ c2 := hblk.ne_map hmap
      have fb : MapF w2' bc fc := (f3.fr hfr1 (by omega)).fr hfg (by omega)
      refine (cset_again _ _ _ _ _ _ (Blk.fr hcow hfg (by omega)) fb (hmap.fr hfg (fun h => ng h.symm)) (by omega) ⟨pk, by rw [kk3.some_ pk hne]; rfl⟩).mono ?_
      rintro e w' ⟨rfl, hc', hm', hfr'⟩
      have hw' : Fr (fun x => x = mc ∨ x = cm) w3 w' := (hfr1.next hfg (fun x hx h => by omega)).next hfr' (fun x hx h => by omega)
      refine ⟨rfl, (hf3.mono (fun x _ h => .inl h)).next hw' (fun x hx h => by omega), fun hss W hWf => ⟨?_, ?_⟩⟩
      · have fbW : MapF W bc fc := (fb.fr hfr' (by omega)).fr hWf (by omega)
        have hgl := ho.lt
        have hoW : OwnS W g cap ss' := (ho.congr (hfr'.block _ ho.lt (by omega))).congr (hWf.block _ (Nat.lt_of_lt_of_le ho.lt hfr'.size) (by omega))
        refine fin _ _ w' W hw' hWf (ansC_here (Blk.fr hc' hWf (by omega)) fbW (hm'.fr hWf (by omega))) ?_ ⟨fun h => absurd (hss.trans h) hsne, fun _ => ⟨_, _, by rw [hss], by rw [← hss]; exact hoW.strs⟩⟩
        rw [hcg, if_neg (fun h => hsne (hss.trans h))]
      · have s6 := hfr'.size
        rw [hWf.block cm (by omega) (by omega), hfr'.block cm (by omega) (by omega), hfg.block cm (by omega) (by omega)]; exact hcm1
    · rintro e w4 ⟨rfl, i, g, cap, hi, hget', hf4, hP4⟩
      refine ⟨rfl, hf4, hP4 ?_⟩
      rw [hpk]
      rw [hpk] at hi hget'
      exact (kids_on hD hd hr hi (by rw [hget', hid])).symm
  · rintro e w' ⟨rfl, w4, h, c, hP, hf4, hfe, hh, ho, hb⟩
    refine ⟨rfl, (hP w' hfe).1, (hP w' hfe).2, ⟨h, c, ho, hb⟩, ?_⟩
    exact (hf4.mono (fun x _ hx => by omega)).trans (hfe.mono (fun x _ hx => by omega))
end Go.Proofs.Ybulkeipw
