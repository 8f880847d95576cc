import Derived.Test.YbulkeipwLawA
namespace Go.Proofs.Ybulkeipw
open Go.RowKit
set_option linter.unusedVariables false

/-- behind 'newEdit(w1, true)' -/
structure Sh (wN wF : World) (B n bp bc : Nat) (D Pr : List ByteArray) (fc : ByteArray → Option Value) (G : ByteArray → Nat × Nat) (wH : World) : Prop where
  size : wH.heap.size = wF.heap.size + 14
  rm : MapF wH (wF.heap.size + 1) (fun _ => none)
  cm : wH.heap[wF.heap.size + 3]? = some (.map #[] 0)
  e : Blk wH (wF.heap.size + 2) #[ptr wF.heap.size, .map (some (wF.heap.size + 3)), .map (some (wF.heap.size + 1)), .slice none 0 0, ptr (B + 4)] 46
  w1 : Blk wH wF.heap.size #[ptr (wF.heap.size + 4), ptr (wF.heap.size + 5), ptr (wF.heap.size + 6), ptr (wF.heap.size + 7), ptr (wF.heap.size + 8), ptr (wF.heap.size + 9), ptr (wF.heap.size + 10), ptr (wF.heap.size + 11), ptr (wF.heap.size + 12), ptr (wF.heap.size + 13), .pointer none, .nilFunc] 38
  mp : Cow wH (wF.heap.size + 6) 93 (some bp) none n false false
  mc : Cow wH (wF.heap.size + 7) 88 (some bc) none (cnt (kid D Pr n) (E0 :: D)) false false
  mp0 : Cow wH (B + 4) 93 (some bp) none n false false
  mc0 : Cow wH (B + 5) 88 (some bc) none (cnt (kid D Pr n) (E0 :: D)) false false
  fp : MapF wH bp (par D Pr n)
  fcc : MapF wH bc fc
  kk : KidIn wH wN.heap.size (kid D Pr n) fc G
  fr : Fr (fun x => B + 2 ≤ x ∧ x < B + 12) wF wH

theorem shared_edit {wN wF : World} {B n bp bc : Nat} {D Pr : List ByteArray} {fc : ByteArray → Option Value} {G : ByteArray → Nat × Nat} (st : Filled wN (B + 4) (B + 5) D Pr n (some bp) (some bc) fc G wF) (hB : wN.heap.size = B + 12) (hZ : ∀ i, i < 10 → i ≠ 2 → i ≠ 3 → Cow wF (B + 2 + i) (tyOf i) none none 0 false false) :
    Calls Yba.prog 5 #[ptr wF.heap.size, .bool true] (wF.alloc (.cells #[ptr (B + 2), ptr (B + 3), ptr (B + 4), ptr (B + 5), ptr (B + 6), ptr (B + 7), ptr (B + 8), ptr (B + 9), ptr (B + 10), ptr (B + 11), .pointer none, .nilFunc] 38)) fun e wH => e = .returned (ptr (wF.heap.size + 2)) ∧ Sh wN wF B n bp bc D Pr fc G wH := by
  have hsF := st.fr.size
  obtain ⟨wG, hwG⟩ : ∃ wG, wG = wF.alloc (.cells #[ptr (B + 2), ptr (B + 3), ptr (B + 4), ptr (B + 5), ptr (B + 6), ptr (B + 7), ptr (B + 8), ptr (B + 9), ptr (B + 10), ptr (B + 11), .pointer none, .nilFunc] 38) := ⟨_, rfl⟩
  rw [← hwG]
  have hsG : wG.heap.size = wF.heap.size + 1 := by rw [hwG]; simp
  have hWG : Blk wG wF.heap.size #[ptr (B + 2), ptr (B + 3), ptr (B + 4), ptr (B + 5), ptr (B + 6), ptr (B + 7), ptr (B + 8), ptr (B + 9), ptr (B + 10), ptr (B + 11), .pointer none, .nilFunc] 38 := by rw [hwG]; exact blk_new _ _ _
  have hbG : Below wF.heap.size wF wG := by rw [hwG]; exact (Below.refl _ _).alloc (Nat.le_refl _) _
  have hpp : Cow wF (B + 4) 93 (some bp) none n true false := st.pp.1
  have hcc : Cow wF (B + 5) 88 (some bc) none (cnt (kid D Pr n) (E0 :: D)) true false := st.cc.1
  have hfp : MapF wF bp (par D Pr n) := st.pp.2
  have hfc : MapF wF bc fc := st.cc.2
  have hbp := st.bpl bp rfl
  have hbc := st.bcl bc rfl
  have lbp := hfp.lt
  have lbc := hfc.lt
  have hQ : ∀ i, i < 10 → Cow wG (B + 2 + i) (tyOf i) (if i = 2 then some bp else if i = 3 then some bc else none) none (if i = 2 then (n : Int) else if i = 3 then (cnt (kid D Pr n) (E0 :: D) : Int) else 0) (i == 2 || i == 3) false := by
    intro i hi
    by_cases e2 : i = 2
    · subst e2; exact pcow_below hpp hbG
    · by_cases e3 : i = 3
      · subst e3; exact ccow_below hcc hbG
      · have h := Blk.congr (hZ i hi e2 e3) (hbG.block _ (Blk.lt (hZ i hi e2 e3)))
        have hbe : (i == 2 || i == 3) = false := by simp [e2, e3]
        rw [if_neg e2, if_neg e3, if_neg e2, if_neg e3, hbe]
        exact h
  refine (newEdit_true (Q := B + 2) (v10 := .pointer none) (v11 := .nilFunc) hWG hQ (by omega)).mono ?_
  rintro e wH ⟨rfl, hsH, hr, hcm, hE, hW, hcl, hfr⟩
  rw [hsG] at hsH hr hcm hE hW hcl
  have n2 := hcl.new 2 (by omega)
  have n3 := hcl.new 3 (by omega)
  have o2 := hcl.old 2 (by omega)
  have o3 := hcl.old 3 (by omega)
  have hfH : Fr (fun x => B + 2 ≤ x ∧ x < B + 12) wF wH := ⟨hfr.os.trans hbG.os, hfr.tape.trans hbG.tape, hfr.output.trans hbG.output, by omega, fun x hx hnn => by rw [hfr.block x (by omega) (by omega), hbG.block x hx]⟩
  refine ⟨by rw [hsG], hsH.trans (by omega), hr, hcm, hE, hW, n2, n3, o2, o3, hfp.fr hfH (by omega), hfc.fr hfH (by omega), st.kk.fr hfH (fun k hk => by have := st.kk.lo k hk; omega), hfH⟩

/-- behind 'removeResource' on the copy -/
theorem shared_rm {wN wF wH : World} {B n bp bc r : Nat} {D Pr : List ByteArray} {fc : ByteArray → Option Value} {G : ByteArray → Nat × Nat} (st : Filled wN (B + 4) (B + 5) D Pr n (some bp) (some bc) fc G wF) (hB : wN.heap.size = B + 12) (S : Sh wN wF B n bp bc D Pr fc G wH)
    (hD : D.length = n) (hn : n ≤ 4096) (hnd : (E0 :: D).Nodup) (hr : r < n) (hkey : Pr.getD r ByteArray.empty ∈ E0 :: D) :
    Calls Yba.prog 7 #[ptr (wF.heap.size + 2), .string (D.getD r ByteArray.empty)] wH fun e wR => e = .returned (.tuple #[]) ∧ Done wR (wF.heap.size + 6) (wF.heap.size + 7) n D Pr r ∧ Done wR (B + 4) (B + 5) n D Pr (-1) ∧
      wR.heap[wF.heap.size + 3]? = some (.map #[⟨key2 (wF.heap.size + 7) (Pr.getD r ByteArray.empty), .bool true, 0⟩] 1) ∧ (∃ h c, OwnS wR h c [D.getD r ByteArray.empty] ∧ Blk wR (wF.heap.size + 2) #[ptr wF.heap.size, .map (some (wF.heap.size + 3)), .map (some (wF.heap.size + 1)), .slice (some ⟨h, 0, none⟩) 1 c, ptr (B + 4)] 46) ∧
      Fr (fun x => x = wF.heap.size + 6 ∨ x = wF.heap.size + 7 ∨ x = wF.heap.size + 3 ∨ x = wF.heap.size + 2) wH wR := by
  have hsF := st.fr.size
  have lbp : bp < wF.heap.size := (st.pp.2 : MapF wF bp _).lt
  have lbc : bc < wF.heap.size := (st.cc.2 : MapF wF bc _).lt
  refine (rm_fork S.mp S.fp S.mc S.fcc S.kk S.cm (by omega) hD hn hnd hr hkey S.e S.w1 rfl rfl).mono ?_
  rintro e wR ⟨rfl, h1, h2, h3, h4⟩
  refine ⟨rfl, h1, ?_, h2, h3, h4⟩
  refine done_whole (F := wN.heap.size) hD hnd (Blk.fr S.mp0 h4 (by omega)) (S.fp.fr h4 (by omega)) (Blk.fr S.mc0 h4 (by omega)) (S.fcc.fr h4 (by omega)) (S.kk.fr h4 (fun k hk => ?_))
  have := (st.kk.own k hk).lt
  omega
end Go.Proofs.Ybulkeipw
