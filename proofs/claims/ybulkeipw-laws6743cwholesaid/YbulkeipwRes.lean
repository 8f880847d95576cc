import Derived.Test.YbulkeipwRem
namespace Go.Proofs.Ybulkeipw
open Go.RowKit
set_option linter.unusedVariables false

set_option maxRecDepth 20000 in
set_option maxHeartbeats 2000000 in
/-- removeResource 7, whatever the Maps' operations do -/
theorem res7 {w : World} {eb wb mp mc : Nat} {id pk : ByteArray} {cws : Array Value} {cp rm sh : Value} (hE : Blk w eb #[ptr wb, cp, rm, .slice none 0 0, sh] 46) (hW : Blk w wb cws 38) (h2 : cws[2]? = some (ptr mp)) (h3 : cws[3]? = some (ptr mc))
    (S : Nat → Prop) (hSe : ¬ S eb) (hSw : ¬ S wb) (Mid Post : World → Prop)
    (hget : Calls Yba.prog 19 #[ptr mp, .string id] w fun e w1 => e = .returned (.string pk) ∧ Below w.heap.size w w1)
    (hdel : ∀ w1, Below w.heap.size w w1 → Calls Yba.prog 20 #[ptr mp, .string id] w1 fun e w2 => e = .returned (.tuple #[]) ∧ Fr S w w2 ∧ Mid w2)
    (hrem : ∀ w2 w3 q, Mid w2 → Below w2.heap.size w2 w3 → w2.heap.size ≤ q → q < w3.heap.size → w3.cell? ⟨q, 0, none⟩ = some (.string id) → Calls Yba.prog 21 #[ptr eb, ptr mc, .string pk, .func (.func 41) #[] #[.pointer (some ⟨q, 0, none⟩)]] w3 fun e w4 => e = .returned (.tuple #[]) ∧ Fr S w w4 ∧ Post w4) :
    Calls Yba.prog 7 #[ptr eb, .string id] w fun e w' => e = .returned (.tuple #[]) ∧ ∃ w4 h c, Post w4 ∧ Fr S w w4 ∧ Fr (fun x => x = eb) w4 w' ∧ w4.heap.size ≤ h ∧ OwnS w' h c [id] ∧ Blk w' eb #[ptr wb, cp, rm, .slice (some ⟨h, 0, none⟩) 1 c, sh] 46 := by
  obtain ⟨i0, hi, hz0, hz1, hz2⟩ := info_parts Yba.info9
  have HI := hide hi
  have HZ0 := hide hz0
  have HZ1 := hide hz1
  have HZ2 := hide hz2
  have KEEP : Hid (∀ W, Fr S w W → Blk W eb #[ptr wb, cp, rm, .slice none 0 0, sh] 46 ∧ W.cell? ⟨eb, 0, none⟩ = some (ptr wb) ∧ W.cell? ⟨wb, 2, none⟩ = some (ptr mp) ∧ W.cell? ⟨wb, 3, none⟩ = some (ptr mc)) := fun W hW' =>
    ⟨hE.fr hW' hSe, ((hE.fr hW' hSe).cell 0).trans rfl, ((hW.fr hW' hSw).cell 2).trans h2, ((hW.fr hW' hSw).cell 3).trans h3⟩
  have HG := hide hget
  have HD := hide hdel
  have HR := hide hrem
  have k00 := (KEEP.out w (Fr.refl _ _)).2.1
  have k01 := (KEEP.out w (Fr.refl _ _)).2.2.1
  clear hget hdel hrem hE hW h2 h3 hi hz0 hz1 hz2
  go_enter Yba.func7, Yba.ntmps7
  go_wp2_with fail
  refine HG.out.mono ?_
  rintro e w1 ⟨rfl, hb1⟩
  have k10 := (KEEP.out w1 (Fr.of_below hb1)).2.1
  have k11 := (KEEP.out w1 (Fr.of_below hb1)).2.2.1
  have HB1 := hide hb1
  clear k00 k01 hb1 HG
  go_wp2_with fail
  refine (HD.out w1 HB1.out).mono ?_
  rintro e w2 ⟨rfl, hf2, hm2⟩
  have HF2 := hide hf2
  have HM2 := hide hm2
  clear k10 k11 hf2 hm2 HD HB1
  have hal : ∀ W : World, Fr S w W → (W.cell? ⟨eb, 0, none⟩ = some (ptr wb) ∧ W.cell? ⟨wb, 3, none⟩ = some (ptr mc)) := fun W h => ⟨(KEEP.out W h).2.1, (KEEP.out W h).2.2.2⟩
  have HAL := hide hal
  have hsame := fun (W : World) => same_any id W
  have HSAME := hide hsame
  clear hal hsame
  go_wp2
  go_region_held3 (fun w' => w'.cell? ⟨eb, 0, none⟩ = some (ptr wb) ∧ w'.cell? ⟨wb, 3, none⟩ = some (ptr mc))
    (first | exact HAL.out w2 HF2.out | assumption)
    (first
      | (go_at_call 22; refine (HSAME.out w2.drew).mono ?_; rintro e w3 ⟨rfl, hw3⟩; have hk3 := HAL.out w3 (by rw [hw3]; exact HF2.out.drew.alloc _); have HW3 := hide hw3; clear hw3)
      | (go_at_call 21; refine (HR.out w2 w3 w2.heap.size HM2.out (by rw [HW3.out]; exact ((Below.refl _ _).drew).alloc (Nat.le_refl _) _) (Nat.le_refl _) (by rw [HW3.out]; simp) (by rw [HW3.out]; exact World.cell?_alloc_new _ _ _ 0)).mono ?_; rintro e w4 ⟨rfl, hf4, hp4⟩; have hk4 := HAL.out w4 hf4))
  have hE4 := (KEEP.out w4 hf4).1
  have k43 : w4.cell? ⟨eb, 3, none⟩ = some (.slice none 0 0) := hE4.cell 3
  have k4f : w4.frozen? ⟨eb, 3, none⟩ = false := hE4.frozen 3
  have heb : eb < w4.heap.size := hE4.lt
  have HE4 := hide hE4
  have HF4 := hide hf4
  have HP4 := hide hp4
  clear hE4 hf4 hp4 hk3 hk4 HW3 HR HM2 HF2
  have hown : (w4.alloc (.cells #[.string id] 9)).ownsRow w4.heap.size 9 1 (.slice none 0 0) 0 [] := ⟨rfl, .inl ⟨rfl, rfl⟩⟩
  go_wp2_with (first
    | (at_builtin; refine wpList_append_own _ rfl _ _ 22 rfl w4.heap.size 9 i0 (.string { data := #[] }) 1 16 Yba.underlying22 HI.out HZ0.out HZ1.out HZ2.out rfl (by decide) (.slice none 0 0) 0 [] rfl hown ⟨w4.heap.size, 0, none⟩ 1 1 [.string id] rfl rfl (one_new _ _ _) (by simp [Value.oneCell']) (by simp [maxLen]) (by omega) (by simp) ?_
       intro v' w5 hown' hgrow hnil'
       have hne : v' ≠ .slice none 0 0 := fun h => by simpa using hnil'.1 h
       simp only [Nat.zero_add, List.nil_append] at hown'
       obtain ⟨h, c, hv, hg1, hrow'⟩ := ownS_of (ss := [id]) hown' hne
       subst hv
       have hf5 : Fr (fun x => x = eb) w4 w5 := (Fr.of_below (((Below.refl _ _).alloc (Nat.le_refl _) _).grown hgrow (by simp) (fun k hk => by simp [Value.ownBlock] at hk)))
       have hE5 := Blk.congr HE4.out (((Below.refl w4.heap.size w4).alloc (Nat.le_refl _) (.cells #[.string id] 9)).grown hgrow (by simp) (fun k hk => by simp [Value.ownBlock] at hk) |>.block eb heb)
       have k53 : w5.cell? ⟨eb, 3, none⟩ = some (.slice none 0 0) := hE5.cell 3
       have k5f : w5.frozen? ⟨eb, 3, none⟩ = false := hE5.frozen 3
       have HE5 := hide hE5
       have HF5 := hide hf5
       have HR5 := hide hrow'
       clear hnil' hown' hgrow hne hE5 hf5 hrow' k43 k4f hown))
  first | go_end0 | refine bodyPost_ret (results_none rfl _ _ _) rfl ?_
  have hhe : h ≠ eb := by omega
  exact ⟨rfl, w4, h, c, HP4.out, HF4.out, HF5.out.setCell _ _ (fun _ => rfl), hg1, HR5.out.congr (Below.heap_setCell _ _ _ _ hhe), HE5.out.setCell 3 _⟩
end Go.Proofs.Ybulkeipw
