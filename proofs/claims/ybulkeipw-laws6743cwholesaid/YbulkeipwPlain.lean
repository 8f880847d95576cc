import Derived.Test.YbulkeipwChkW
namespace Go.Proofs.Ybulkeipw
open Go.RowKit
set_option linter.unusedVariables false

theorem nd_inj {D : List ByteArray} (h : D.Nodup) {i j : Nat} (hi : i < D.length) (hj : j < D.length) (e : D.getD i ByteArray.empty = D.getD j ByteArray.empty) : i = j := by
  rcases Nat.lt_trichotomy i j with h1 | h1 | h1
  · exact absurd e (nd_ne D h i j h1 hj)
  · exact h1
  · exact absurd e.symm (nd_ne D h j i h1 hi)

theorem par_at {D Pr : List ByteArray} (h : D.Nodup) {i : Nat} : ∀ {m : Nat}, i < m → m ≤ D.length → par D Pr m (D.getD i ByteArray.empty) = some (.string (Pr.getD i ByteArray.empty))
  | m + 1, hi, hm => by
    rw [par]
    by_cases e : i = m
    · subst e; rw [if_pos rfl]
    · rw [if_neg (fun h' => e (nd_inj h (by omega) (by omega) h')), par_at h (by omega) (by omega)]

theorem kids_filter {D Pr : List ByteArray} (h : D.Nodup) {r : Nat} (hr : r < D.length) (k : ByteArray) : ∀ {m : Nat}, m ≤ D.length → kids D Pr k r m = (kid D Pr m k).filter (fun x => decide (x ≠ D.getD r ByteArray.empty))
  | 0, _ => rfl
  | m + 1, hm => by
    have ih := kids_filter h hr k (m := m) (Pr := Pr) (by omega)
    have h1 : (m : Int) ≠ -1 := by omega
    have k1 : ∀ s : Int, kids D Pr k s (m + 1) = kids D Pr k s m ++ (if (m : Int) ≠ s ∧ Pr.getD m ByteArray.empty = k then [D.getD m ByteArray.empty] else []) := fun _ => rfl
    rw [k1, ih, show kid D Pr (m + 1) k = kids D Pr k (-1) (m + 1) from rfl, k1, List.filter_append]
    congr 1
    by_cases e : m = r
    · subst e
      rw [if_neg (by simp)]
      by_cases e2 : Pr.getD m ByteArray.empty = k
      · rw [if_pos ⟨h1, e2⟩]; simp
      · rw [if_neg (fun h => e2 h.2)]; rfl
    · have e3 : ¬ (m : Int) = r := by omega
      have e4 : D.getD m ByteArray.empty ≠ D.getD r ByteArray.empty := fun h' => e (nd_inj h (by omega) hr h')
      by_cases e2 : Pr.getD m ByteArray.empty = k
      · rw [if_pos ⟨e3, e2⟩, if_pos ⟨h1, e2⟩]; simp only [List.filter_cons, List.filter_nil, decide_eq_true e4]; rfl
      · rw [if_neg (fun h => e2 h.2), if_neg (fun h => e2 h.2)]; rfl

theorem kid_sub (D Pr : List ByteArray) (k : ByteArray) : ∀ m, m ≤ D.length → (kid D Pr m k).Sublist (D.take m)
  | 0, _ => List.nil_sublist _
  | m + 1, hm => by
    rw [kid, kids, List.take_add_one]
    refine (kid_sub D Pr k m (by omega)).append ?_
    have e : D[m]?.toList = [D.getD m ByteArray.empty] := by simp [List.getD, show m < D.length by omega]
    rw [e]
    split
    · exact List.Sublist.refl _
    · exact List.nil_sublist _
theorem kid_nodup {D Pr : List ByteArray} (h : D.Nodup) (k : ByteArray) : (kid D Pr D.length k).Nodup := by
  have := kid_sub D Pr k D.length (Nat.le_refl _)
  rw [List.take_length] at this
  exact h.sublist this

theorem kid_mem {D Pr : List ByteArray} {x k : ByteArray} : ∀ {m : Nat}, x ∈ kid D Pr m k ↔ ∃ i, i < m ∧ D.getD i ByteArray.empty = x ∧ Pr.getD i ByteArray.empty = k
  | 0 => by simp [kid, kids]
  | m + 1 => by
    have h1 : (m : Int) ≠ -1 := by omega
    rw [kid, kids, List.mem_append, show (x ∈ kids D Pr k (-1) m ↔ _) from kid_mem (m := m)]
    constructor
    · rintro (⟨i, hi, h⟩ | h)
      · exact ⟨i, by omega, h⟩
      · split at h
        · rename_i hc
          exact ⟨m, by omega, (List.mem_singleton.1 h).symm, hc.2⟩
        · simp at h
    · rintro ⟨i, hi, h2, h3⟩
      by_cases e : i = m
      · subst e; right; rw [if_pos ⟨h1, h3⟩, h2]; simp
      · exact .inl ⟨i, by omega, h2, h3⟩

theorem filter_at {l : List ByteArray} (h : l.Nodup) {i : Nat} (hi : i < l.length) {a : ByteArray} (e : l.getD i ByteArray.empty = a) : l.filter (fun x => decide (x ≠ a)) = l.take i ++ l.drop (i + 1) := by
  have e' : l[i] = a := by simpa [List.getD, hi] using e
  have hs : l = l.take i ++ a :: l.drop (i + 1) := by rw [← e']; simp
  have hn := h
  rw [hs, List.nodup_append] at hn
  have h1 : ∀ x ∈ l.take i, x ≠ a := fun x hx => hn.2.2 x hx a (by simp)
  have h2 : ∀ x ∈ l.drop (i + 1), x ≠ a := fun x hx h' => (List.nodup_cons.1 hn.2.1).1 (h' ▸ hx)
  conv => lhs; rw [hs]
  rw [List.filter_append, List.filter_cons]
  simp only [ne_eq, not_true, decide_false]
  rw [List.filter_eq_self.2 (fun x hx => decide_eq_true (h1 x hx)), if_neg (by simp), List.filter_eq_self.2 (fun x hx => decide_eq_true (h2 x hx))]

section
variable {D Pr : List ByteArray} {n r : Nat}
/-- another key keeps its children -/
theorem kids_off (hD : D.length = n) (h : D.Nodup) (hr : r < n) {k : ByteArray} (hk : k ≠ Pr.getD r ByteArray.empty) : kids D Pr k r n = kid D Pr n k := by
  subst hD
  rw [kids_filter h hr k (Nat.le_refl _)]
  refine List.filter_eq_self.2 (fun x hx => decide_eq_true (fun e => ?_))
  obtain ⟨i, hi, h2, h3⟩ := kid_mem.1 hx
  have := nd_inj h hi hr (h2.trans e)
  subst this
  exact hk h3.symm
theorem kids_on (hD : D.length = n) (h : D.Nodup) (hr : r < n) {i : Nat} (hi : i < (kid D Pr n (Pr.getD r ByteArray.empty)).length) (e : (kid D Pr n (Pr.getD r ByteArray.empty)).getD i ByteArray.empty = D.getD r ByteArray.empty) :
    kids D Pr (Pr.getD r ByteArray.empty) r n = (kid D Pr n (Pr.getD r ByteArray.empty)).take i ++ (kid D Pr n (Pr.getD r ByteArray.empty)).drop (i + 1) := by
  subst hD
  rw [kids_filter h hr _ (Nat.le_refl _), filter_at (kid_nodup h _) hi e]
theorem id_mem (hr : r < n) : D.getD r ByteArray.empty ∈ kid D Pr n (Pr.getD r ByteArray.empty) := kid_mem.2 ⟨r, hr, rfl, rfl⟩
theorem cnt_gone (hD : D.length = n) (h : (E0 :: D).Nodup) (hr : r < n) (hk : Pr.getD r ByteArray.empty ∈ E0 :: D) :
    cnt (fun k => kids D Pr k r n) (E0 :: D) = if kids D Pr (Pr.getD r ByteArray.empty) r n = [] then cnt (kid D Pr n) (E0 :: D) - 1 else cnt (kid D Pr n) (E0 :: D) := by
  have hd := (List.nodup_cons.1 h).2
  have hoff : ∀ k, k ≠ Pr.getD r ByteArray.empty → (kids D Pr k r n).isEmpty = (kid D Pr n k).isEmpty := fun k hk => by rw [kids_off hD hd hr hk]
  have hat : (kid D Pr n (Pr.getD r ByteArray.empty)).isEmpty = false := by
    cases hc : kid D Pr n (Pr.getD r ByteArray.empty) with
    | nil => have := id_mem (D := D) (Pr := Pr) hr; rw [hc] at this; simp at this
    | cons a l => rfl
  split
  · rename_i he
    have := cnt_up (C := fun k => kids D Pr k r n) (C' := kid D Pr n) (p := Pr.getD r ByteArray.empty) (by simpa using he) hat (E0 :: D) h hk hoff
    omega
  · rename_i he
    refine cnt_congr _ (fun k _ => ?_)
    by_cases e : k = Pr.getD r ByteArray.empty
    · subst e; rw [hat]; simpa using he
    · exact hoff k e
end
end Go.Proofs.Ybulkeipw
