import Derived.Test.YbulkeipwRes
namespace Go.Proofs.Ybulkeipw
open Go.RowKit
set_option linter.unusedVariables false

/-- a parent Map that answers f and counts n, for good -/
structure AnsP (w : World) (m : Nat) (n : Int) (f : ByteArray → Option Value) : Prop where
  look : ∀ W, Below w.heap.size w W → ∀ k, Calls Yba.prog 23 #[ptr m, .string k] W fun e w' => e = .returned (ans (.string { data := #[] }) (f k)) ∧ Below W.heap.size W w'
  len : ∀ W, Below w.heap.size w W → Calls Yba.prog 24 #[ptr m] W fun e w' => e = .returned (.int .i64 n) ∧ w' = W
/-- a children Map -/
structure AnsC (w : World) (m : Nat) (n : Int) (f : ByteArray → Option Value) : Prop where
  look : ∀ W, Below w.heap.size w W → ∀ k, Calls Yba.prog 26 #[ptr m, .string k] W fun e w' => e = .returned (ans (.slice none 0 0) (f k)) ∧ Below W.heap.size W w'
  len : ∀ W, Below w.heap.size w W → Calls Yba.prog 28 #[ptr m] W fun e w' => e = .returned (.int .i64 n) ∧ w' = W

theorem ansP_plain {w : World} {m b : Nat} {n : Int} {ob oc : Bool} {f : ByteArray → Option Value} (h : Cow w m 93 (some b) none n ob oc) (hf : MapF w b f) : AnsP w m n f :=
  ⟨fun W hW k => plook_plain (pcow_below h hW) (hf.congr (hW.block b hf.lt)) k, fun W hW => plen (pcow_below h hW)⟩
theorem ansC_plain {w : World} {m b : Nat} {n : Int} {ob oc : Bool} {f : ByteArray → Option Value} (h : Cow w m 88 (some b) none n ob oc) (hf : MapF w b f) : AnsC w m n f :=
  ⟨fun W hW k => clook_plain (ccow_below h hW) (hf.congr (hW.block b hf.lt)) k, fun W hW => clen (ccow_below h hW)⟩
theorem ansP_gone {w : World} {m b c : Nat} {n : Int} {ob oc : Bool} {f : ByteArray → Option Value} {kc : ByteArray} (h : Cow w m 93 (some b) (some c) n ob oc) (hf : MapF w b f) (hc : MapF w c (pone kc (.string { data := #[] }) true)) : AnsP w m n (fun j => if j = kc then none else f j) :=
  ⟨fun W hW k => by
    by_cases e : k = kc
    · subst e; simp only [if_true]
      exact plook_at { data := #[] } true (pcow_below h hW) (hc.congr (hW.block c hc.lt))
    · simp only [if_neg e]
      exact plook_off (pcow_below h hW) (hf.congr (hW.block b hf.lt)) (hc.congr (hW.block c hc.lt)) k e, fun W hW => plen (pcow_below h hW)⟩
theorem ansC_gone {w : World} {m b c : Nat} {n : Int} {ob oc : Bool} {f : ByteArray → Option Value} {kc : ByteArray} (h : Cow w m 88 (some b) (some c) n ob oc) (hf : MapF w b f) (hc : MapF w c (cone kc (.slice none 0 0) true)) : AnsC w m n (fun j => if j = kc then none else f j) :=
  ⟨fun W hW k => by
    by_cases e : k = kc
    · subst e; simp only [if_true]
      exact clook_at none 0 0 true (ccow_below h hW) (hc.congr (hW.block c hc.lt))
    · simp only [if_neg e]
      exact clook_off (ccow_below h hW) (hf.congr (hW.block b hf.lt)) (hc.congr (hW.block c hc.lt)) k e, fun W hW => clen (ccow_below h hW)⟩
theorem ansC_here {w : World} {m b c : Nat} {n : Int} {ob oc : Bool} {f : ByteArray → Option Value} {kc : ByteArray} {sa : Option Addr} {sl sc : Nat} (h : Cow w m 88 (some b) (some c) n ob oc) (hf : MapF w b f) (hc : MapF w c (cone kc (.slice sa sl sc) false)) : AnsC w m n (fun j => if j = kc then some (.slice sa sl sc) else f j) :=
  ⟨fun W hW k => by
    by_cases e : k = kc
    · subst e; simp only [if_true]
      exact clook_at sa sl sc false (ccow_below h hW) (hc.congr (hW.block c hc.lt))
    · simp only [if_neg e]
      exact clook_off (ccow_below h hW) (hf.congr (hW.block b hf.lt)) (hc.congr (hW.block c hc.lt)) k e, fun W hW => clen (ccow_below h hW)⟩
theorem AnsP.below {w w' : World} {m : Nat} {n : Int} {f : ByteArray → Option Value} (h : AnsP w m n f) (hb : Below w.heap.size w w') : AnsP w' m n f :=
  ⟨fun W hW => h.look W (hb.trans ⟨hW.os, hW.tape, hW.output, hW.size, fun q hq => hW.block q (Nat.lt_of_lt_of_le hq hb.size)⟩), fun W hW => h.len W (hb.trans ⟨hW.os, hW.tape, hW.output, hW.size, fun q hq => hW.block q (Nat.lt_of_lt_of_le hq hb.size)⟩)⟩
theorem AnsC.below {w w' : World} {m : Nat} {n : Int} {f : ByteArray → Option Value} (h : AnsC w m n f) (hb : Below w.heap.size w w') : AnsC w' m n f :=
  ⟨fun W hW => h.look W (hb.trans ⟨hW.os, hW.tape, hW.output, hW.size, fun q hq => hW.block q (Nat.lt_of_lt_of_le hq hb.size)⟩), fun W hW => h.len W (hb.trans ⟨hW.os, hW.tape, hW.output, hW.size, fun q hq => hW.block q (Nat.lt_of_lt_of_le hq hb.size)⟩)⟩

/-- how many of the first m are not the skipped one -/
def cntP (skip : Int) : Nat → Nat
  | 0 => 0
  | m + 1 => cntP skip m + (if (m : Int) = skip then 0 else 1)
theorem cntP_le (skip : Int) : ∀ m, cntP skip m ≤ m
  | 0 => Nat.le_refl _
  | m + 1 => by have := cntP_le skip m; rw [cntP]; split <;> omega
theorem cntP_out {skip : Int} : ∀ {m : Nat}, (∀ i, i < m → (i : Int) ≠ skip) → cntP skip m = m
  | 0, _ => rfl
  | m + 1, h => by rw [cntP, if_neg (h m (by omega)), cntP_out (fun i hi => h i (by omega))]
theorem cntP_in {r : Nat} : ∀ {m : Nat}, r < m → cntP (r : Int) m + 1 = m
  | m + 1, h => by
    rw [cntP]
    by_cases e : r = m
    · subst e; rw [if_pos rfl, cntP_out (fun i hi => by omega)]
    · rw [if_neg (by omega)]; have := cntP_in (r := r) (m := m) (by omega); omega
theorem cnt_append (C : ByteArray → List ByteArray) : ∀ (K L : List ByteArray), cnt C (K ++ L) = cnt C K + cnt C L
  | [], L => by simp [cnt]
  | k :: K, L => by rw [List.cons_append, cnt, cnt, cnt_append C K L]; omega
theorem cnt_take (C : ByteArray → List ByteArray) (K : List ByteArray) (m : Nat) (hm : m < K.length) : cnt C (K.take (m + 1)) = cnt C (K.take m) + (if (C (K.getD m ByteArray.empty)).isEmpty then 0 else 1) := by
  rw [List.take_add_one, cnt_append]
  simp [List.getD, hm, cnt]
end Go.Proofs.Ybulkeipw
