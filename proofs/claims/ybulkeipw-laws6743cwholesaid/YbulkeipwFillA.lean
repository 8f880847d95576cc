import Derived.Test.YbulkeipwKidInv
import Derived.Deep.RegionHeld3
namespace Go.Proofs.Ybulkeipw
open Go.RowKit
set_option linter.unusedVariables false

abbrev E0 : ByteArray := { data := #[] }
/-- the parent map of the first m resources -/
def par (D Pr : List ByteArray) : Nat → ByteArray → Option Value
  | 0, _ => none
  | m + 1, k => if k = D.getD m ByteArray.empty then some (.string (Pr.getD m ByteArray.empty)) else par D Pr m k
theorem par_none {D Pr : List ByteArray} {k : ByteArray} : ∀ {m : Nat}, (∀ i, i < m → D.getD i ByteArray.empty ≠ k) → par D Pr m k = none
  | 0, _ => rfl
  | m + 1, h => by rw [par, if_neg (fun e => h m (by omega) e.symm)]; exact par_none (fun i hi => h i (by omega))
/-- the children of k among the first m -/
abbrev kid (D Pr : List ByteArray) (m : Nat) (k : ByteArray) : List ByteArray := kids D Pr k (-1) m
theorem kid_succ (D Pr : List ByteArray) (m : Nat) : kid D Pr (m + 1) = fun j => if j = Pr.getD m ByteArray.empty then kid D Pr m (Pr.getD m ByteArray.empty) ++ [D.getD m ByteArray.empty] else kid D Pr m j := by
  funext j
  have h1 : (m : Int) ≠ -1 := by omega
  by_cases e : j = Pr.getD m ByteArray.empty
  · subst e; simp [kid, kids, h1]
  · have e' : ¬ Pr.getD m ByteArray.empty = j := fun h => e h.symm
    simp only [kid, kids, if_neg e]
    rw [if_neg (fun h => e' h.2)]
    simp
theorem cnt_succ {D Pr : List ByteArray} {m : Nat} {K : List ByteArray} (hK : K.Nodup) (hp : Pr.getD m ByteArray.empty ∈ K) :
    cnt (kid D Pr (m + 1)) K = if (kid D Pr m (Pr.getD m ByteArray.empty)).isEmpty then cnt (kid D Pr m) K + 1 else cnt (kid D Pr m) K := by
  have hoth : ∀ k, k ≠ Pr.getD m ByteArray.empty → (kid D Pr m k).isEmpty = (kid D Pr (m + 1) k).isEmpty := fun k hk => by rw [kid_succ]; simp only [if_neg hk]
  have hat : (kid D Pr (m + 1) (Pr.getD m ByteArray.empty)).isEmpty = false := by rw [kid_succ]; simp
  split
  · rename_i he; exact cnt_up he hat K hK hp hoth
  · rename_i he
    refine (cnt_congr K (fun k _ => ?_)).symm
    by_cases e : k = Pr.getD m ByteArray.empty
    · subst e; rw [hat]; simpa using he
    · exact hoth k e

structure Filled (w : World) (mp mc : Nat) (D Pr : List ByteArray) (m : Nat) (bp bc : Option Nat) (fc : ByteArray → Option Value) (G : ByteArray → Nat × Nat) (wr : World) : Prop where
  pp : PS wr mp 93 bp m (par D Pr m)
  cc : PS wr mc 88 bc (cnt (kid D Pr m) (E0 :: D)) fc
  kk : KidIn wr w.heap.size (kid D Pr m) fc G
  bpl : ∀ x, bp = some x → w.heap.size ≤ x
  bcl : ∀ x, bc = some x → w.heap.size ≤ x
  bpc : ∀ x, bp = some x → bc ≠ some x
  both : m ≠ 0 → bp ≠ none ∧ bc ≠ none
  fr : Fr (fun x => x = mp ∨ x = mc) w wr

/-- a row block is no map block -/
theorem KidIn.ne_map {w : World} {F : Nat} {C : ByteArray → List ByteArray} {fc : ByteArray → Option Value} {G : ByteArray → Nat × Nat} (h : KidIn w F C fc G) {k : ByteArray} (hk : C k ≠ []) {b : Nat} {f : ByteArray → Option Value} (hm : MapF w b f) : (G k).1 ≠ b := by
  obtain ⟨cur, hb, _⟩ := h.own k hk
  exact hb.ne_map hm

/-- behind 'parent.Set' -/
theorem Filled.half {w : World} {mp mc m : Nat} {D Pr : List ByteArray} {bp bc : Option Nat} {fc : ByteArray → Option Value} {G : ByteArray → Nat × Nat} {wr w1 : World} (st : Filled w mp mc D Pr m bp bc fc G wr) (hpc : mp ≠ mc) (hplt : mp < w.heap.size) (hclt : mc < w.heap.size)
    (hfr : Fr (fun x => x = mp ∨ bp = some x) wr w1) : PS w1 mc 88 bc (cnt (kid D Pr m) (E0 :: D)) fc ∧ KidIn w1 w.heap.size (kid D Pr m) fc G ∧ Fr (fun x => x = mp ∨ x = mc) w w1 := by
  have hw := st.fr.size
  refine ⟨st.cc.fr hfr (fun h => ?_) (fun x hx h => ?_), st.kk.fr hfr (fun k hk h => ?_), ⟨hfr.os.trans st.fr.os, hfr.tape.trans st.fr.tape, hfr.output.trans st.fr.output, Nat.le_trans hw hfr.size, fun x hx hn => (hfr.block x (Nat.lt_of_lt_of_le hx hw) (fun h => ?_)).trans (st.fr.block x hx hn)⟩⟩
  · rcases h with h | h
    · exact hpc h.symm
    · have := st.bpl _ h; omega
  · have := st.bcl _ hx
    rcases h with h | h
    · omega
    · exact st.bpc _ h hx
  · rcases h with h | h
    · have := st.kk.lo k hk; omega
    · have hm := st.pp
      rw [h] at hm
      exact st.kk.ne_map hk hm.2 rfl
  · rcases h with h | h
    · exact hn (.inl h)
    · have := st.bpl _ h; omega

theorem nd_ne : ∀ (D : List ByteArray), D.Nodup → ∀ i m, i < m → m < D.length → D.getD i ByteArray.empty ≠ D.getD m ByteArray.empty
  | a :: D, h, 0, m + 1, _, hm => by
    have hm' : m < D.length := by simpa using hm
    have h1 : D.getD m ByteArray.empty ∈ D := by simp [List.getD, hm']
    intro e
    have e' : a = D.getD m ByteArray.empty := by simpa using e
    exact (List.nodup_cons.1 h).1 (e' ▸ h1)
  | a :: D, h, i + 1, m + 1, hi, hm => by
    have := nd_ne D (List.nodup_cons.1 h).2 i m (by omega) (by simpa using hm)
    simpa using this

/-- a whole round -/
theorem Filled.step {w : World} {mp mc m n : Nat} {D Pr : List ByteArray} {bp bc : Option Nat} {fc : ByteArray → Option Value} {G : ByteArray → Nat × Nat} {wr w1 w4 w5 : World} (st : Filled w mp mc D Pr m bp bc fc G wr) (hpc : mp ≠ mc) (hplt : mp < w.heap.size) (hclt : mc < w.heap.size)
    (hD : D.length = n) (hm : m < n) (hnd : (E0 :: D).Nodup) (hkey : Pr.getD m ByteArray.empty ∈ E0 :: D) {xd xp : ByteArray} (hxd : xd = D.getD m ByteArray.empty) (hxp : xp = Pr.getD m ByteArray.empty)
    {bp' bc' gn cap : Nat} (p1 : ∀ x, bp = some x → bp' = x) (p2 : bp = none → wr.heap.size ≤ bp') (p3 : PS w1 mp 93 (some bp') (if (par D Pr m xd).isSome then (m : Int) else m + 1) (fun j => if j = xd then some (.string xp) else par D Pr m j)) (p4 : Fr (fun x => x = mp ∨ bp = some x) wr w1)
    (b4 : Below w1.heap.size w1 w4) (hgn : w1.heap.size ≤ gn) (ho : OwnS w4 gn cap (kid D Pr m xp ++ [xd]))
    (c1 : ∀ x, bc = some x → bc' = x) (c2 : bc = none → w4.heap.size ≤ bc') (c3 : PS w5 mc 88 (some bc') (if (fc xp).isSome then (cnt (kid D Pr m) (E0 :: D) : Int) else cnt (kid D Pr m) (E0 :: D) + 1) (fun j => if j = xp then some (.slice (some ⟨gn, 0, none⟩) (kid D Pr m xp ++ [xd]).length cap) else fc j)) (c4 : Fr (fun x => x = mc ∨ bc = some x) w4 w5) :
    Filled w mp mc D Pr (m + 1) (some bp') (some bc') (fun j => if j = xp then some (.slice (some ⟨gn, 0, none⟩) (kid D Pr m xp ++ [xd]).length cap) else fc j) (fun j => if j = xp then (gn, cap) else G j) w5 := by
  obtain ⟨hcc, hkk, hfw⟩ := st.half hpc hplt hclt p4
  have hw := hfw.size
  have hw4 := b4.size
  have hpn : par D Pr m xd = none := par_none (fun i hi e => nd_ne D (List.nodup_cons.1 hnd).2 i m hi (by omega) (by rw [e, hxd]))
  have hbp' : w.heap.size ≤ bp' := by
    cases hb : bp with
    | none => have := p2 hb; have := st.fr.size; omega
    | some x => have := p1 x hb; have := st.bpl x hb; omega
  have hbc' : w.heap.size ≤ bc' := by
    cases hb : bc with
    | none => have := c2 hb; omega
    | some x => have := c1 x hb; have := st.bcl x hb; omega
  have hmp1 : MapF w1 bp' _ := p3.2
  have hbpc : bp' ≠ bc' := by
    intro e
    cases hb : bc with
    | none => have := c2 hb; have := hmp1.lt; omega
    | some x =>
      have e2 := c1 x hb
      cases hb2 : bp with
      | none =>
        have h1 := p2 hb2
        have h2 := st.cc
        rw [hb] at h2
        have := h2.blt
        omega
      | some y => have := p1 y hb2; exact st.bpc y hb2 (by rw [hb]; congr 1; omega)
  have p3' : PS w4 mp 93 (some bp') ((m + 1 : Nat) : Int) (par D Pr (m + 1)) := by
    have h := p3.below b4
    rw [hpn] at h
    have e : (fun j => if j = xd then some (Value.string xp) else par D Pr m j) = par D Pr (m + 1) := by funext j; rw [hxd, hxp]; rfl
    rw [e] at h
    simpa using h
  have hk4 := hkk.set b4 (k := xp) hgn (by omega) (by simp) ho
  have hcnt : (if (fc xp).isSome then (cnt (kid D Pr m) (E0 :: D) : Int) else cnt (kid D Pr m) (E0 :: D) + 1) = (cnt (kid D Pr (m + 1)) (E0 :: D) : Nat) := by
    rw [cnt_succ hnd hkey, st.kk.isSome, hxp]
    cases (kid D Pr m (Pr.getD m ByteArray.empty)).isEmpty <;> simp
  have hkid : kid D Pr (m + 1) = fun j => if j = xp then kid D Pr m xp ++ [xd] else kid D Pr m j := by rw [kid_succ, hxd, hxp]
  refine ⟨?_, ?_, ?_, fun x hx => by obtain rfl := Option.some.inj hx; exact hbp', fun x hx => by obtain rfl := Option.some.inj hx; exact hbc', fun x hx h => by obtain rfl := Option.some.inj hx; exact hbpc (Option.some.inj h).symm, fun _ => ⟨by simp, by simp⟩, ?_⟩
  · refine p3'.fr c4 (fun h => ?_) (fun x hx h => ?_)
    · rcases h with h | h
      · exact hpc h
      · have := st.bcl _ h; omega
    · obtain rfl := Option.some.inj hx
      rcases h with h | h
      · omega
      · exact hbpc (c1 _ h).symm
  · rw [← hcnt]; exact c3
  · rw [hkid]
    refine hk4.fr c4 (fun k hk h => ?_)
    rcases h with h | h
    · have := hk4.lo k hk; omega
    · have hm4 := hcc.below b4
      rw [h] at hm4
      exact hk4.ne_map hk hm4.2 rfl
  · refine ⟨c4.os.trans (b4.os.trans hfw.os), c4.tape.trans (b4.tape.trans hfw.tape), c4.output.trans (b4.output.trans hfw.output), by have := c4.size; omega, fun x hx hn => ?_⟩
    rw [c4.block x (by omega) (fun h => ?_), b4.block x (by omega), hfw.block x hx hn]
    rcases h with h | h
    · exact hn (.inr h)
    · have := st.bcl _ h; omega

theorem make22 (n : Nat) (hn : n ≤ 1000000) (W : World) : (Instr.makeSlice 22 (.int .i64 0) (.int .i64 n)).run Yba.prog W =
    .ok (.slice (some ⟨W.heap.size, 0, none⟩) 0 n) (W.alloc (.cells (madeCells #[.string E0] n) 9)) := by
  obtain ⟨i0, hi, hz0, hz1, hz2⟩ := info_parts Yba.info9
  have := run_make (P := Yba.prog) W 22 9 i0 (.string E0) Yba.underlying22 hi hz0 .i64 .i64 0 n (by omega) (by omega) (by rw [hz2]; omega) (by omega)
  simpa [hz1, Value.cells] using this


/-- what 'children.Get' answers -/
theorem KidIn.cur {w : World} {F : Nat} {C : ByteArray → List ByteArray} {fc : ByteArray → Option Value} {G : ByteArray → Nat × Nat} (h : KidIn w F C fc G) (k : ByteArray) : ∃ a c, (fc k).getD (.slice none 0 0) = .slice a (C k).length c ∧ (a = none → (C k).length = 0 ∧ c = 0) ∧ (∀ ad, a = some ad → ∀ W : World, (∀ x, x < w.heap.size → W.heap[x]? = w.heap[x]?) → ∀ j u, ((C k).map Value.string)[j]? = some u → W.cell? (ad.add j) = some u) := by
  by_cases e : C k = []
  · rw [h.none_ k e]
    exact ⟨none, 0, by rw [e]; rfl, fun _ => by simp [e], fun ad h => by cases h⟩
  · rw [h.some_ k e]
    refine ⟨_, _, rfl, fun h => (by cases h), fun ad had W hW => ?_⟩
    obtain rfl := Option.some.inj had
    exact ((h.own k e).row.congr (hW _ (h.own k e).lt)).news

theorem hide {p : Prop} (h : p) : Hid p := h
theorem owns_kept {w w' : World} {base : Nat} {e : TypeId} {size : Nat} {v : Value} {n : Nat} {xs : List Value} (h : w.ownsRow base e size v n xs) (hb : ∀ k, k < w.heap.size → w'.heap[k]? = w.heap[k]?) : w'.ownsRow base e size v n xs :=
  ⟨h.1, h.2.elim .inl fun ⟨g, cap, cur, h1, h2, h3, h4⟩ => .inr ⟨g, cap, cur, h1, h2, (hb g (Blk.lt h3)).trans h3, h4⟩⟩
theorem owns_alloc {w : World} {base : Nat} {e : TypeId} {size : Nat} {v : Value} {n : Nat} {xs : List Value} (h : w.ownsRow base e size v n xs) (o : Obj) : (w.alloc o).ownsRow base e size v n xs :=
  owns_kept h (fun k hk => Below.heap_alloc _ _ _ hk)
theorem one_new (w : World) (u : Value) (e : TypeId) : ∀ (j : Nat) (v : Value), ([u] : List Value)[j]? = some v → (w.alloc (.cells #[u] e)).cell? ((⟨w.heap.size, 0, none⟩ : Addr).add j) = some v
  | 0, v, h => by
    rw [Addr.add_lit, World.cell?_alloc_new]
    simpa using h
  | j + 1, v, h => by simp at h

theorem Filled.fr5 {w : World} {mp mc m : Nat} {D Pr : List ByteArray} {bp bc : Option Nat} {fc : ByteArray → Option Value} {G : ByteArray → Nat × Nat} {wr w4 w5 : World} (st : Filled w mp mc D Pr m bp bc fc G wr) (h4 : Fr (fun x => x = mp ∨ x = mc) w w4) (c4 : Fr (fun x => x = mc ∨ bc = some x) w4 w5) : Fr (fun x => x = mp ∨ x = mc) w w5 := by
  refine ⟨c4.os.trans h4.os, c4.tape.trans h4.tape, c4.output.trans h4.output, Nat.le_trans h4.size c4.size, fun x hx hn => ?_⟩
  rw [c4.block x (Nat.lt_of_lt_of_le hx h4.size) (fun h => ?_), h4.block x hx hn]
  rcases h with h | h
  · exact hn (.inr h)
  · have := st.bcl _ h; omega
end Go.Proofs.Ybulkeipw
