import Derived.Test.YbulkeipwPS
namespace Go.Proofs.Ybulkeipw
open Go.RowKit
set_option linter.unusedVariables false

/-- THE CHILDREN MAP IN MEMORY: fc answers, key by key, with a slice in a row of its own (from block F on) that holds the key's children C k; no two keys' rows are one. -/
structure KidIn (w : World) (F : Nat) (C : ByteArray → List ByteArray) (fc : ByteArray → Option Value) (G : ByteArray → Nat × Nat) : Prop where
  none_ : ∀ k, C k = [] → fc k = none
  some_ : ∀ k, C k ≠ [] → fc k = some (.slice (some ⟨(G k).1, 0, none⟩) (C k).length (G k).2)
  own : ∀ k, C k ≠ [] → OwnS w (G k).1 (G k).2 (C k)
  lo : ∀ k, C k ≠ [] → F ≤ (G k).1
  inj : ∀ k k', C k ≠ [] → C k' ≠ [] → (G k).1 = (G k').1 → k = k'

theorem KidIn.isSome {w : World} {F : Nat} {C : ByteArray → List ByteArray} {fc : ByteArray → Option Value} {G : ByteArray → Nat × Nat} (h : KidIn w F C fc G) (k : ByteArray) : (fc k).isSome = !(C k).isEmpty := by
  by_cases e : C k = []
  · simp [h.none_ k e, e]
  · rw [h.some_ k e]; cases hc : C k <;> simp_all

/-- rows are untouched where no row block turned -/
theorem KidIn.fr {w w' : World} {F : Nat} {C : ByteArray → List ByteArray} {fc : ByteArray → Option Value} {G : ByteArray → Nat × Nat} {S : Nat → Prop} (h : KidIn w F C fc G) (hf : Fr S w w') (hs : ∀ k, C k ≠ [] → ¬ S (G k).1) : KidIn w' F C fc G :=
  ⟨h.none_, h.some_, fun k hk => (h.own k hk).congr (hf.block _ (h.own k hk).lt (hs k hk)), h.lo, h.inj⟩
theorem KidIn.below {w w' : World} {F : Nat} {C : ByteArray → List ByteArray} {fc : ByteArray → Option Value} {G : ByteArray → Nat × Nat} (h : KidIn w F C fc G) (hb : Below w.heap.size w w') : KidIn w' F C fc G :=
  h.fr (S := fun _ => False) (Fr.of_below hb) (fun _ _ h => h)

/-- a new row for the key k -/
theorem KidIn.set {w w' : World} {F : Nat} {C : ByteArray → List ByteArray} {fc : ByteArray → Option Value} {G : ByteArray → Nat × Nat} (h : KidIn w F C fc G) (hb : Below w.heap.size w w') {k : ByteArray} {g cap : Nat} {ss : List ByteArray} (hg : w.heap.size ≤ g) (hF : F ≤ g) (hne : ss ≠ []) (ho : OwnS w' g cap ss) :
    KidIn w' F (fun j => if j = k then ss else C j) (fun j => if j = k then some (.slice (some ⟨g, 0, none⟩) ss.length cap) else fc j) (fun j => if j = k then (g, cap) else G j) := by
  have h' := h.below hb
  refine ⟨fun j hj => ?_, fun j hj => ?_, fun j hj => ?_, fun j hj => ?_, fun i j hi hj e => ?_⟩
  · by_cases ej : j = k
    · subst ej; simp only [if_true] at hj; exact absurd hj hne
    · simp only [if_neg ej] at hj ⊢; exact h.none_ j hj
  · by_cases ej : j = k
    · subst ej; simp
    · simp only [if_neg ej] at hj ⊢; exact h.some_ j hj
  · by_cases ej : j = k
    · subst ej; simpa using ho
    · simp only [if_neg ej] at hj ⊢; exact h'.own j hj
  · by_cases ej : j = k
    · subst ej; simpa using hF
    · simp only [if_neg ej] at hj ⊢; exact h.lo j hj
  · by_cases ei : i = k
    · by_cases ej : j = k
      · rw [ei, ej]
      · simp only [if_pos ei, if_neg ej] at e hj
        have := (h.own j hj).lt
        omega
    · by_cases ej : j = k
      · simp only [if_neg ei, if_pos ej] at e hi
        have := (h.own i hi).lt
        omega
      · simp only [if_neg ei, if_neg ej] at e hi hj
        exact h.inj i j hi hj e

/-! ### PLAIN: counting the keys with children -/
/-- how many of the keys have children -/
def cnt (C : ByteArray → List ByteArray) : List ByteArray → Nat
  | [] => 0
  | k :: K => (if (C k).isEmpty then 0 else 1) + cnt C K
theorem cnt_congr {C C' : ByteArray → List ByteArray} : ∀ (K : List ByteArray), (∀ k ∈ K, (C k).isEmpty = (C' k).isEmpty) → cnt C K = cnt C' K
  | [], _ => rfl
  | k :: K, h => by rw [cnt, cnt, h k (by simp), cnt_congr K (fun j hj => h j (by simp [hj]))]
/-- one key gets its first child -/
theorem cnt_up {C C' : ByteArray → List ByteArray} {p : ByteArray} (h1 : (C p).isEmpty = true) (h2 : (C' p).isEmpty = false) : ∀ (K : List ByteArray), K.Nodup → p ∈ K → (∀ k, k ≠ p → (C k).isEmpty = (C' k).isEmpty) → cnt C' K = cnt C K + 1
  | k :: K, hn, hp, h => by
    rw [List.nodup_cons] at hn
    by_cases e : k = p
    · subst e
      rw [cnt, cnt, h1, h2, cnt_congr (C := C') (C' := C) K (fun j hj => (h j (fun e => hn.1 (e ▸ hj))).symm)]
      simp; omega
    · have hp' : p ∈ K := by simpa [show ¬ p = k from fun x => e x.symm] using hp
      rw [cnt, cnt, h k e, cnt_up h1 h2 K hn.2 hp' h]; omega
theorem cnt_le (C : ByteArray → List ByteArray) : ∀ K : List ByteArray, cnt C K ≤ K.length
  | [] => by simp [cnt]
  | k :: K => by have := cnt_le C K; simp only [cnt, List.length_cons]; split <;> omega
theorem cnt_pos {C : ByteArray → List ByteArray} {p : ByteArray} (h : (C p).isEmpty = false) : ∀ K : List ByteArray, p ∈ K → 1 ≤ cnt C K
  | k :: K, hp => by
    by_cases e : k = p
    · subst e; rw [cnt, h]; simp
    · have hp' : p ∈ K := by simpa [show ¬ p = k from fun x => e x.symm] using hp
      have := cnt_pos h K hp'
      rw [cnt]; omega
end Go.Proofs.Ybulkeipw
