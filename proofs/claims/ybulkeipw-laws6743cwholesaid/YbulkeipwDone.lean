import Derived.Test.YbulkeipwPlain
namespace Go.Proofs.Ybulkeipw
open Go.RowKit
set_option linter.unusedVariables false

theorem Fr.next {S S' : Nat → Prop} {a b c : World} (h : Fr S a b) (k : Fr S' b c) (hs : ∀ x, x < a.heap.size → S' x → S x) : Fr S a c :=
  ⟨k.os.trans h.os, k.tape.trans h.tape, k.output.trans h.output, Nat.le_trans h.size k.size, fun x hx hn => (k.block x (Nat.lt_of_lt_of_le hx h.size) (fun h' => hn (hs x hx h'))).trans (h.block x hx hn)⟩

/-- the two Maps hold what the check asks, but for the resource at 'skip' -/
def Done (w : World) (mp mc n : Nat) (D Pr : List ByteArray) (skip : Int) : Prop := ∃ fP fC, AnsP w mp (cntP skip n) fP ∧ AnsC w mc (cnt (fun k => kids D Pr k skip n) (E0 :: D)) fC ∧
  (∀ i, i < n → fP (D.getD i ByteArray.empty) = if (i : Int) = skip then none else some (.string (Pr.getD i ByteArray.empty))) ∧
  (∀ k ∈ E0 :: D, (kids D Pr k skip n = [] → fC k = none) ∧ (kids D Pr k skip n ≠ [] → ∃ a c, fC k = some (.slice a (kids D Pr k skip n).length c) ∧ Strs w a (kids D Pr k skip n)))

theorem Done.below {w w' : World} {mp mc n : Nat} {D Pr : List ByteArray} {skip : Int} (h : Done w mp mc n D Pr skip) (hb : Below w.heap.size w w') : Done w' mp mc n D Pr skip := by
  obtain ⟨fP, fC, h1, h2, h3, h4⟩ := h
  refine ⟨fP, fC, h1.below hb, h2.below hb, h3, fun k hk => ⟨(h4 k hk).1, fun hne => ?_⟩⟩
  obtain ⟨a, c, e, hs⟩ := (h4 k hk).2 hne
  exact ⟨a, c, e, hs.below hb⟩
theorem Done.calls {w : World} {mp mc n : Nat} {D Pr : List ByteArray} {skip : Int} (h : Done w mp mc n D Pr skip) {ad ap : Option Addr} {cd cp : Nat} (hD : D.length = n) (hP : Pr.length = n) (hn : n ≤ 4096) (hn0 : 0 < n) (sD : Strs w ad D) (sP : Strs w ap Pr) :
    Calls Yba.prog 8 #[ptr mp, ptr mc, .slice ad n cd, .slice ap n cp, .int .i64 skip] w fun e w' => e = .returned (.bool true) ∧ Below w.heap.size w w' := by
  obtain ⟨fP, fC, h1, h2, h3, h4⟩ := h
  exact maps_any h1 h2 hD hP hn hn0 sD sP h3 h4

/-- nothing removed -/
theorem done_whole {w : World} {mp mc n bp bc F : Nat} {D Pr : List ByteArray} {fc : ByteArray → Option Value} {G : ByteArray → Nat × Nat} {o1 o2 o3 o4 : Bool} (hD : D.length = n) (hnd : (E0 :: D).Nodup)
    (hp : Cow w mp 93 (some bp) none n o1 o2) (hbp : MapF w bp (par D Pr n)) (hc : Cow w mc 88 (some bc) none (cnt (kid D Pr n) (E0 :: D)) o3 o4) (hbc : MapF w bc fc) (kk : KidIn w F (kid D Pr n) fc G) : Done w mp mc n D Pr (-1) := by
  refine ⟨par D Pr n, fc, ?_, ansC_plain hc hbc, fun i hi => ?_, fun k hk => ⟨kk.none_ k, fun hne => ⟨_, _, kk.some_ k hne, (kk.own k hne).strs⟩⟩⟩
  · rw [cntP_out (fun i hi => by omega)]; exact ansP_plain hp hbp
  · rw [if_neg (by omega), par_at (List.nodup_cons.1 hnd).2 hi (by omega)]

/-- the resource r removed -/
theorem done_of {W : World} {mp mc n r : Nat} {D Pr : List ByteArray} {fc : ByteArray → Option Value} {n' : Int} {v : Option Value} (hD : D.length = n) (hnd : (E0 :: D).Nodup) (hr : r < n)
    (hP : AnsP W mp ((n : Int) - 1) (fun j => if j = D.getD r ByteArray.empty then none else par D Pr n j)) (hC : AnsC W mc n' (fun j => if j = Pr.getD r ByteArray.empty then v else fc j)) (hn' : n' = cnt (fun k => kids D Pr k r n) (E0 :: D))
    (hK : ∀ k, k ≠ Pr.getD r ByteArray.empty → (kid D Pr n k = [] → fc k = none) ∧ (kid D Pr n k ≠ [] → ∃ a c, fc k = some (.slice a (kid D Pr n k).length c) ∧ Strs W a (kid D Pr n k)))
    (hv : (kids D Pr (Pr.getD r ByteArray.empty) r n = [] → v = none) ∧ (kids D Pr (Pr.getD r ByteArray.empty) r n ≠ [] → ∃ a c, v = some (.slice a (kids D Pr (Pr.getD r ByteArray.empty) r n).length c) ∧ Strs W a (kids D Pr (Pr.getD r ByteArray.empty) r n))) : Done W mp mc n D Pr r := by
  have hd := (List.nodup_cons.1 hnd).2
  refine ⟨fun j => if j = D.getD r ByteArray.empty then none else par D Pr n j, fun j => if j = Pr.getD r ByteArray.empty then v else fc j, ?_, hn' ▸ hC, fun i hi => ?_, fun k hk => ?_⟩
  · have := cntP_in (r := r) (m := n) hr
    rw [show ((cntP (r : Int) n : Nat) : Int) = (n : Int) - 1 by omega]; exact hP
  · by_cases e : i = r
    · subst e; simp
    · have e2 : ¬ D.getD i ByteArray.empty = D.getD r ByteArray.empty := fun h => e (nd_inj hd (by omega) (by omega) h)
      simp only [if_neg e2]
      rw [if_neg (by omega), par_at hd hi (by omega)]
  · by_cases e : k = Pr.getD r ByteArray.empty
    · subst e; simp only [if_true]; exact hv
    · simp only [if_neg e]
      rw [kids_off hD hd hr e]
      exact hK k e
theorem KidIn.rest {w W : World} {F : Nat} {C : ByteArray → List ByteArray} {fc : ByteArray → Option Value} {G : ByteArray → Nat × Nat} (h : KidIn w F C fc G) {pk : ByteArray} (ho : ∀ k, k ≠ pk → C k ≠ [] → OwnS W (G k).1 (G k).2 (C k)) :
    ∀ k, k ≠ pk → (C k = [] → fc k = none) ∧ (C k ≠ [] → ∃ a c, fc k = some (.slice a (C k).length c) ∧ Strs W a (C k)) :=
  fun k hk => ⟨h.none_ k, fun hne => ⟨_, _, h.some_ k hne, (ho k hk hne).strs⟩⟩
end Go.Proofs.Ybulkeipw
