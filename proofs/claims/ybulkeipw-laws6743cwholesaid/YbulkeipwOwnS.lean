import Derived.Test.YbulkeipwCopied
import Derived.Deep.RegionHeld3
namespace Go.Proofs.Ybulkeipw
open Go.RowKit
set_option linter.unusedVariables false

set_option maxRecDepth 20000 in
theorem own37_false {w : World} {eb mc : Nat} {ces : Array Value} {x : Option Value} (hE : Blk w eb ces 46) (h1 : ces[1]? = some (.map none)) (k : ByteArray)
    (hget : Calls Yba.prog 17 #[ptr mc, .string k] w fun e w' => e = .returned (x.getD (.slice none 0 0)) ∧ Below w.heap.size w w') :
    Calls Yba.prog 37 #[ptr eb, ptr mc, .string k] w fun e w' => e = .returned (x.getD (.slice none 0 0)) ∧ Below w.heap.size w w' := by
  have KEEP : Hid (∀ W, Below w.heap.size w W → W.cell? ⟨eb, 1, none⟩ = some (.map none)) := fun W hW => by
    rw [(Blk.congr hE (hW.block _ hE.lt)).cell 1]; exact h1
  have HG := hide hget
  obtain ⟨v, hv⟩ : ∃ v, v = x.getD (.slice none 0 0) := ⟨_, rfl⟩
  clear hget hE h1
  rw [← hv] at HG ⊢
  clear hv
  have hq := fun (W : World) (r : Option Nat) => run_eql_map_nil (P := Yba.prog) W 43 48 4 r Yba.underlying43
  go_enter Yba.func37, Yba.ntmps37
  go_wp2_with (go_at_call 17; refine HG.out.mono ?_; rintro e w1 ⟨rfl, hb⟩; have hc1 := KEEP.out w1 hb; have HB := hide hb; clear hb)
  go_ret
  exact ⟨rfl, HB.out⟩

set_option maxRecDepth 20000 in
set_option maxHeartbeats 2000000 in
theorem own37_true {w : World} {eb mc b cm g cap : Nat} {n : Int} {ces : Array Value} {f : ByteArray → Option Value} {ss : List ByteArray} (hE : Blk w eb ces 46) (h1 : ces[1]? = some (.map (some cm))) (hcm : w.heap[cm]? = some (.map #[] 0)) (k : ByteArray)
    (hc : Cow w mc 88 (some b) none n false false) (hf : MapF w b f) (hk : f k = some (.slice (some ⟨g, 0, none⟩) ss.length cap)) (ho : OwnS w g cap ss) (hn : ss.length ≤ 100000) (hbc : b ≠ cm) :
    Calls Yba.prog 37 #[ptr eb, ptr mc, .string k] w fun e w' => ∃ g' cap' c : Nat, e = .returned (.slice (some ⟨g', 0, none⟩) ss.length cap') ∧ w.heap.size ≤ g' ∧ OwnS w' g' cap' ss ∧ w.heap.size ≤ c ∧ Cow w' mc 88 (some b) (some c) n false true ∧ MapF w' c (cone k (.slice (some ⟨g', 0, none⟩) ss.length cap') false) ∧ w'.heap[cm]? = some (.map #[⟨key2 mc k, .bool true, 0⟩] 1) ∧ Fr (fun x => x = mc ∨ x = cm) w w' := by
  have hget := cget_of k (clook_plain hc hf k)
  rw [hk, Option.getD_some] at hget
  have HG := hide hget
  have KEEP : Hid (∀ W, Below w.heap.size w W → W.cell? ⟨eb, 1, none⟩ = some (.map (some cm))) := fun W hW => by
    rw [(Blk.congr hE (hW.block _ hE.lt)).cell 1]; exact h1
  have heb := hE.lt
  have hebm : eb ≠ mc := hE.ne hc (by decide)
  have hmcm : mc ≠ cm := fun e => by subst e; have h := hcm; unfold Cow Blk at hc; rw [hc] at h; cases h
  have hebc : eb ≠ cm := fun e => by subst e; have h := hcm; unfold Blk at hE; rw [hE] at h; cases h
  have hmcl : mc < w.heap.size := Blk.lt hc
  have hbl : b < w.heap.size := hf.lt
  have hcml : cm < w.heap.size := lt_of_block hcm
  have HCM := hide hcm
  have HC := hide hc
  have HF := hide hf
  have HK := hide hk
  have HO := hide ho
  have hb48 := build48
  clear hget hE h1 hcm hc hf hk ho
  have hq := fun (W : World) (r : Option Nat) => run_eql_map_nil (P := Yba.prog) W 43 48 4 r Yba.underlying43
  go_enter Yba.func37, Yba.ntmps37
  go_wp2_with (go_at_call 17; refine HG.out.mono ?_; rintro e w1 ⟨rfl, hb⟩; have hc1 := KEEP.out w1 hb; have HB := hide hb; clear hb)
  obtain ⟨w2, hw2⟩ : ∃ w2, w2 = w1.alloc (.cells #[.iface 28 (ptr mc), .iface 9 (.string k)] 48) := ⟨_, rfl⟩
  obtain ⟨bx, hbx⟩ : ∃ bx, bx = w1.heap.size := ⟨_, rfl⟩
  rw [← hw2, ← hbx]
  have hb2 : Below w.heap.size w w2 := by rw [hw2]; exact HB.out.alloc HB.out.size _
  have hB2 : Blk w2 bx #[.iface 28 (ptr mc), .iface 9 (.string k)] 48 := by rw [hw2, hbx]; exact blk_new _ _ _
  have hbxl : w.heap.size ≤ bx := by rw [hbx]; exact HB.out.size
  have h21 := KEEP.out w2 hb2
  have h22 := hB2.cell 0
  have h23 := hB2.cell 1
  have hcm2 : w2.heap[cm]? = some (.map #[] 0) := (hb2.block cm hcml).trans HCM.out
  have hl2 := look2_empty (w := w2.drew) hcm2 mc k
  have HB2 := hide hb2
  have HBX := hide hB2
  have HCM2 := hide hcm2
  clear hw2 hbx hb2 hB2 hcm2 hc1 HB HG
  go_region
  clear hl2 h21 h22 h23
  have hcl := clone46 g cap ss w2.drew hn (HO.out.congr (HB2.out.block g HO.out.lt))
  have HCL := hide hcl
  clear hcl
  go_wp2_with (first
    | (go_at_call 46; refine HCL.out.mono ?_; rintro e w3 ⟨⟨g', cap', rfl, hg', ho'⟩, hb3⟩; replace hb3 : Below w2.heap.size w2 w3 := ⟨hb3.os, hb3.tape, hb3.output, hb3.size, hb3.block⟩; replace hg' : w2.heap.size ≤ g' := hg'; have HB3 := hide hb3; have HO3 := hide ho'; clear hb3 ho')
    | fail)
  have hb03 : Below w.heap.size w w3 := HB2.out.trans ⟨HB3.out.os, HB3.out.tape, HB3.out.output, HB3.out.size, fun q hq => HB3.out.block q (Nat.lt_of_lt_of_le hq HB2.out.size)⟩
  have hs2 : w.heap.size ≤ w2.heap.size := HB2.out.size
  have hs3 : w2.heap.size ≤ w3.heap.size := HB3.out.size
  have hbx2 : bx < w2.heap.size := HBX.out.lt
  refine (cset_fork (ccow_below HC.out hb03) (HF.out.fr (Fr.of_below (S := fun _ => False) hb03) (fun h => h)) k (by rw [HK.out]; rfl) _ _ _).mono ?_
  rintro e w4 ⟨rfl, ⟨c, hc4, hcow4, hmap4⟩, hfr4⟩
  have hs4 : w3.heap.size ≤ w4.heap.size := hfr4.size
  have h41 : w4.cell? ⟨eb, 1, none⟩ = some (.map (some cm)) := by
    rw [World.cell?_of_block (w := w3) (a := ⟨eb, 1, none⟩) (hfr4.block eb (by omega) hebm)]; exact KEEP.out w3 hb03
  have hB4 : Blk w4 bx #[.iface 28 (ptr mc), .iface 9 (.string k)] 48 := (HBX.out.congr (HB3.out.block bx hbx2)).fr hfr4 (by omega)
  have h42 := hB4.cell 0
  have h43 := hB4.cell 1
  have hcm4 : w4.heap[cm]? = some (.map #[] 0) := (hfr4.block cm (by omega) (Ne.symm hmcm)).trans ((hb03.block cm hcml).trans HCM.out)
  have hu4 := put2_empty (w := w4.drew) hcm4 mc k
  have hg'c : cm ≠ g' := by omega
  have hcc : cm ≠ c := by omega
  have hgmc : g' ≠ mc := by omega
  have hfin : OwnS (setMap w4.drew cm (.map #[⟨key2 mc k, .bool true, 0⟩] 1)) g' cap' ss ∧ Cow (setMap w4.drew cm (.map #[⟨key2 mc k, .bool true, 0⟩] 1)) mc 88 (some b) (some c) n false true ∧ MapF (setMap w4.drew cm (.map #[⟨key2 mc k, .bool true, 0⟩] 1)) c (cone k (.slice (some ⟨g', 0, none⟩) ss.length cap') false) ∧ (setMap w4.drew cm (.map #[⟨key2 mc k, .bool true, 0⟩] 1)).heap[cm]? = some (.map #[⟨key2 mc k, .bool true, 0⟩] 1) ∧ Fr (fun x => x = mc ∨ x = cm) w (setMap w4.drew cm (.map #[⟨key2 mc k, .bool true, 0⟩] 1)) := by
    refine ⟨?_, ?_, ?_, ?_, ?_⟩
    · exact (HO3.out.congr (hfr4.block g' HO3.out.lt hgmc)).congr (heap_setMap_ne w4.drew _ _ _ (Ne.symm hg'c))
    · exact Blk.setMap (w := w4.drew) hcow4 _ _ hmcm
    · exact MapF.congr (w := w4) hmap4 (heap_setMap_ne w4.drew _ _ _ (Ne.symm hcc))
    · have : cm < w4.drew.heap.size := lt_of_block hcm4
      simp only [setMap, Array.getElem?_setIfInBounds, if_true]
      rw [if_pos this]
    · refine Fr.setMap (w := w4.drew) (Fr.drew ?_) cm _ (fun _ => .inr rfl)
      exact (Fr.of_below hb03).trans (hfr4.mono (fun x _ hx => .inl hx))
  have HFIN := hide hfin
  clear hfin hcow4 hmap4 hfr4 hB4 hcm4 hb03
  go_wp2
  go_region
  go_wp2
  go_ret
  exact ⟨g', cap', c, rfl, by omega, HFIN.out.1, by omega, HFIN.out.2.1, HFIN.out.2.2.1, HFIN.out.2.2.2.1, HFIN.out.2.2.2.2⟩
end Go.Proofs.Ybulkeipw
