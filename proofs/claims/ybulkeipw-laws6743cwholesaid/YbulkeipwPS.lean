import Derived.Test.YbulkeipwKids
namespace Go.Proofs.Ybulkeipw
open Go.RowKit
set_option linter.unusedVariables false

/-- A Map of the call's own, never shared: with no base yet, or with base b: it answers as f and counts n. -/
def PS (w : World) (m : Nat) (T : TypeId) (b : Option Nat) (n : Int) (f : ByteArray → Option Value) : Prop := match b with
  | none => n = 0 ∧ (∀ k, f k = none) ∧ Cow w m T none none 0 false false
  | some b => Cow w m T (some b) none n true false ∧ MapF w b f

theorem PS.lt {w : World} {m : Nat} {T : TypeId} {b : Option Nat} {n : Int} {f : ByteArray → Option Value} (h : PS w m T b n f) : m < w.heap.size := by
  cases b with
  | none => exact Blk.lt h.2.2
  | some b => exact Blk.lt h.1
theorem PS.fr {w w' : World} {m : Nat} {T : TypeId} {b : Option Nat} {n : Int} {f : ByteArray → Option Value} {S : Nat → Prop} (h : PS w m T b n f) (hf : Fr S w w') (h1 : ¬ S m) (h2 : ∀ x, b = some x → ¬ S x) : PS w' m T b n f := by
  cases b with
  | none => exact ⟨h.1, h.2.1, Blk.fr h.2.2 hf h1⟩
  | some b => exact ⟨Blk.fr h.1 hf h1, h.2.fr hf (h2 b rfl)⟩
theorem PS.below {w w' : World} {m : Nat} {T : TypeId} {b : Option Nat} {n : Int} {f : ByteArray → Option Value} (h : PS w m T b n f) (hb : Below w.heap.size w w') : PS w' m T b n f :=
  h.fr (S := fun _ => False) (Fr.of_below hb) (fun h => h) (fun _ _ h => h)
theorem PS.blt {w : World} {m x : Nat} {T : TypeId} {n : Int} {f : ByteArray → Option Value} (h : PS w m T (some x) n f) : x < w.heap.size := h.2.lt

theorem pPS_look {w : World} {m : Nat} {b : Option Nat} {n : Int} {f : ByteArray → Option Value} (h : PS w m 93 b n f) (k : ByteArray) :
    Calls Yba.prog 23 #[ptr m, .string k] w fun e w' => e = .returned (ans (.string { data := #[] }) (f k)) ∧ Below w.heap.size w w' := by
  cases b with
  | none => rw [h.2.1 k]; exact plook_new h.2.2 k
  | some b => exact plook_plain h.1 h.2 k
theorem pPS_get {w : World} {m : Nat} {b : Option Nat} {n : Int} {f : ByteArray → Option Value} (h : PS w m 93 b n f) (k : ByteArray) :
    Calls Yba.prog 19 #[ptr m, .string k] w fun e w' => e = .returned ((f k).getD (.string { data := #[] })) ∧ Below w.heap.size w w' := pget_of k (pPS_look h k)
theorem pPS_set {w : World} {m : Nat} {b : Option Nat} {n : Int} {f : ByteArray → Option Value} (h : PS w m 93 b n f) (h0 : 0 ≤ n) (h1 : n ≤ 100000) (k : ByteArray) (sv : ByteArray) :
    Calls Yba.prog 16 #[ptr m, .string k, .string sv] w fun e w' => e = .returned (.tuple #[]) ∧ ∃ b', (∀ x, b = some x → b' = x) ∧ (b = none → w.heap.size ≤ b') ∧ PS w' m 93 (some b') (if (f k).isSome then n else n + 1) (fun j => if j = k then some (.string sv) else f j) ∧ Fr (fun x => x = m ∨ b = some x) w w' := by
  cases b with
  | none =>
    obtain ⟨rfl, hf, hc⟩ := h
    refine (pset_new hc (by omega) (by omega) k sv).mono ?_
    rintro e w' ⟨rfl, ⟨b, hb1, hb2, hb3⟩, hfr⟩
    refine ⟨rfl, b, (fun x hx => by cases hx), fun _ => hb1, ⟨?_, ?_⟩, hfr.mono (fun x _ hx => .inl hx)⟩
    · rw [hf k]; simpa using hb2
    · obtain ⟨es, cl, L, q1, q2, q3, q4⟩ := hb3
      exact ⟨es, cl, L, q1, q2, q3, fun j => by rw [q4]; simp only [hf j]⟩
  | some b =>
    refine (pset_own h.1 h.2 h0 h1 k sv).mono ?_
    rintro e w' ⟨rfl, hc, hm, hfr⟩
    exact ⟨rfl, b, fun x hx => Option.some.inj hx, (fun hx => by cases hx), ⟨hc, hm⟩, hfr.mono (fun x _ hx => hx.elim (fun h => .inl h) (fun h => .inr (by rw [h])))⟩

theorem cPS_look {w : World} {m : Nat} {b : Option Nat} {n : Int} {f : ByteArray → Option Value} (h : PS w m 88 b n f) (k : ByteArray) :
    Calls Yba.prog 26 #[ptr m, .string k] w fun e w' => e = .returned (ans (.slice none 0 0) (f k)) ∧ Below w.heap.size w w' := by
  cases b with
  | none => rw [h.2.1 k]; exact clook_new h.2.2 k
  | some b => exact clook_plain h.1 h.2 k
theorem cPS_get {w : World} {m : Nat} {b : Option Nat} {n : Int} {f : ByteArray → Option Value} (h : PS w m 88 b n f) (k : ByteArray) :
    Calls Yba.prog 17 #[ptr m, .string k] w fun e w' => e = .returned ((f k).getD (.slice none 0 0)) ∧ Below w.heap.size w w' := cget_of k (cPS_look h k)
theorem cPS_set {w : World} {m : Nat} {b : Option Nat} {n : Int} {f : ByteArray → Option Value} (h : PS w m 88 b n f) (h0 : 0 ≤ n) (h1 : n ≤ 100000) (k : ByteArray) (sa : Option Addr) (sl sc : Nat) :
    Calls Yba.prog 18 #[ptr m, .string k, .slice sa sl sc] w fun e w' => e = .returned (.tuple #[]) ∧ ∃ b', (∀ x, b = some x → b' = x) ∧ (b = none → w.heap.size ≤ b') ∧ PS w' m 88 (some b') (if (f k).isSome then n else n + 1) (fun j => if j = k then some (.slice sa sl sc) else f j) ∧ Fr (fun x => x = m ∨ b = some x) w w' := by
  cases b with
  | none =>
    obtain ⟨rfl, hf, hc⟩ := h
    refine (cset_new hc (by omega) (by omega) k sa sl sc).mono ?_
    rintro e w' ⟨rfl, ⟨b, hb1, hb2, hb3⟩, hfr⟩
    refine ⟨rfl, b, (fun x hx => by cases hx), fun _ => hb1, ⟨?_, ?_⟩, hfr.mono (fun x _ hx => .inl hx)⟩
    · rw [hf k]; simpa using hb2
    · obtain ⟨es, cl, L, q1, q2, q3, q4⟩ := hb3
      exact ⟨es, cl, L, q1, q2, q3, fun j => by rw [q4]; simp only [hf j]⟩
  | some b =>
    refine (cset_own h.1 h.2 h0 h1 k sa sl sc).mono ?_
    rintro e w' ⟨rfl, hc, hm, hfr⟩
    exact ⟨rfl, b, fun x hx => Option.some.inj hx, (fun hx => by cases hx), ⟨hc, hm⟩, hfr.mono (fun x _ hx => hx.elim (fun h => .inl h) (fun h => .inr (by rw [h])))⟩

end Go.Proofs.Ybulkeipw
