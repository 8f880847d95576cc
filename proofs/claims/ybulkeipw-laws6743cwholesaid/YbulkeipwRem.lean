import Derived.Test.YbulkeipwOwnS
namespace Go.Proofs.Ybulkeipw
open Go.RowKit
set_option linter.unusedVariables false

set_option maxRecDepth 20000 in
set_option maxHeartbeats 2000000 in
/-- removeFrom 21, whatever 'ownSlice', 'Delete' and 'Set' do -/
theorem rem21 {w : World} {eb mc q : Nat} {k s : ByteArray} {ss : List ByteArray} (Inv : Nat → Nat → World → Prop) (Post : Nat → Nat → List ByteArray → World → Prop) (hn : ss.length ≤ 100000) (hm : s ∈ ss)
    (h37 : Calls Yba.prog 37 #[ptr eb, ptr mc, .string k] w fun e w1 => ∃ g cap, e = .returned (.slice (some ⟨g, 0, none⟩) ss.length cap) ∧ OwnS w1 g cap ss ∧ Inv g cap w1)
    (hq : ∀ g cap w1, Inv g cap w1 → w1.cell? ⟨q, 0, none⟩ = some (.string s))
    (hdel : ∀ g cap w1 w2, Inv g cap w1 → Fr (fun x => x = g) w1 w2 → OwnS w2 g cap [] → Calls Yba.prog 40 #[ptr mc, .string k] w2 fun e w' => e = .returned (.tuple #[]) ∧ Post g cap [] w')
    (hset : ∀ g cap w1 w2 ss', Inv g cap w1 → Fr (fun x => x = g) w1 w2 → OwnS w2 g cap ss' → ss' ≠ [] → Calls Yba.prog 18 #[ptr mc, .string k, .slice (some ⟨g, 0, none⟩) ss'.length cap] w2 fun e w' => e = .returned (.tuple #[]) ∧ Post g cap ss' w') :
    Calls Yba.prog 21 #[ptr eb, ptr mc, .string k, .func (.func 41) #[] #[.pointer (some ⟨q, 0, none⟩)]] w fun e w' => e = .returned (.tuple #[]) ∧ ∃ i g cap, i < ss.length ∧ ss.getD i ByteArray.empty = s ∧ Post g cap (ss.take i ++ ss.drop (i + 1)) w' := by
  have H37 := hide h37
  have HQ := hide hq
  have HDEL := hide hdel
  have HSET := hide hset
  have HM := hide hm
  clear h37 hq hdel hset hm
  go_enter Yba.func21, Yba.ntmps21
  go_wp2_with fail
  refine H37.out.mono ?_
  rintro e w1 ⟨g, cap, rfl, ho, hinv⟩
  have HO := hide ho
  have HI := hide hinv
  clear ho hinv
  go_wp2_with fail
  refine (indexf_any (some ⟨g, 0, none⟩) cap q ss s w1 hn HO.out.strs HM.out (HQ.out g cap w1 HI.out)).mono ?_
  rintro e w1' ⟨i, rfl, hi, hget, rfl⟩
  have HGET := hide hget
  clear hget
  go_wp2_with fail
  have hd := delete_any (i := i) (j := i + 1) HO.out hn (by omega) (by omega)
  simp only [Int.natCast_add, Int.natCast_one] at hd
  refine hd.mono ?_
  rintro e w2 ⟨rfl, ho2, hfr2⟩
  clear hd
  obtain ⟨ss', hss⟩ : ∃ ss', ss' = ss.take i ++ ss.drop (i + 1) := ⟨_, rfl⟩
  rw [← hss] at ho2 ⊢
  have hl' : ss'.length ≤ 100000 := by rw [hss]; simp; omega
  have HO2 := hide ho2
  have HFR2 := hide hfr2
  have HSS := hide hss
  clear ho2 hfr2 hss
  by_cases e : ss' = []
  · have hlen : ss'.length = 0 := by rw [e]; rfl
    have H := hide (HDEL.out g cap w1' w2 HI.out HFR2.out (by rw [← e]; exact HO2.out))
    rw [hlen]
    go_wp2_with (go_at_call 40; refine H.out.mono ?_; rintro e2 w3 ⟨rfl, hp⟩; have HP := hide hp; clear hp)
    first | go_end0 | refine bodyPost_ret (results_none rfl _ _ _) rfl ?_
    exact ⟨rfl, i, g, cap, hi, HGET.out, by rw [← HSS.out, e]; exact HP.out⟩
  · have hpos : 0 < ss'.length := by cases ss' with | nil => exact absurd rfl e | cons a l => simp
    have H := hide (HSET.out g cap w1' w2 ss' HI.out HFR2.out HO2.out e)
    obtain ⟨L, hL⟩ : ∃ L, L = ss'.length := ⟨_, rfl⟩
    rw [← hL] at H hpos hl' ⊢
    clear hL e
    have hne : ((L : Int) == 0) = false := by simp; omega
    go_wp2_with (go_at_call 18; refine H.out.mono ?_; rintro e2 w3 ⟨rfl, hp⟩; have HP := hide hp; clear hp)
    first | go_end0 | refine bodyPost_ret (results_none rfl _ _ _) rfl ?_
    exact ⟨rfl, i, g, cap, hi, HGET.out, by rw [← HSS.out]; exact HP.out⟩
end Go.Proofs.Ybulkeipw
