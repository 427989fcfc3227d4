import Derived.Test.Qxb6603401aTree
namespace Go.Proofs.Qxb6603401a
open Go Go.RowKit

theorem inter_len (k : Nat) : ∀ (I : List It) (E : List (List It)), E.length = I.length + 1 → (∀ e ∈ E, k ≤ e.length + 1) → k * (I.length + 1) ≤ (inter I E).length + 1
  | [], [e], _, h => by have := h e List.mem_cons_self; simpa [inter] using this
  | [], [], hl, _ => by simp at hl
  | [], _ :: _ :: _, hl, _ => by simp at hl
  | _ :: _, [], hl, _ => by simp at hl
  | x :: I, e :: E, hl, h => by
    have h1 := inter_len k I E (by simpa using hl) (fun e he => h e (List.mem_cons_of_mem _ he))
    have h2 := h e List.mem_cons_self
    have e1 : k * ((x :: I).length + 1) = k + k * (I.length + 1) := by rw [List.length_cons, Nat.mul_add k (I.length + 1) 1]; omega
    rw [e1]
    simp only [inter, List.length_append, List.length_cons]
    omega

theorem Tr.deep : {d : Nat} → (t : Tr d) → t.Ok 1 → 2 ^ d ≤ t.ents.length + 1
  | 0, _, _ => Nat.le_add_left _ _
  | d + 1, (b, its, ks), h => by
    have hl : ks.length = its.length + 1 := h.2.2.1
    have h1 : 1 ≤ its.length := h.1
    have := inter_len (2 ^ d) its (ks.map Tr.ents) (by rw [List.length_map]; exact hl) (fun e he => by
      obtain ⟨k, hk, rfl⟩ := List.mem_map.1 he
      have hok := h.2.2.2 k hk
      exact Tr.deep k (k.ok_mono hok (by have := (k.ok_len hok).1; omega)))
    have h3 : 2 ^ d * 2 ≤ 2 ^ d * (its.length + 1) := Nat.mul_le_mul_left _ (by omega)
    show 2 ^ (d + 1) ≤ (inter its (ks.map Tr.ents)).length + 1
    rw [Nat.pow_succ]
    omega
theorem Tr.deep64 {d : Nat} {t : Tr d} (h : t.Ok 1) (hn : t.ents.length ≤ 1000000) : d ≤ 64 := by
  have := t.deep h
  rcases Nat.lt_or_ge 64 d with h1 | h1
  · have h2 : 2 ^ 64 ≤ 2 ^ d := Nat.pow_le_pow_right (by omega) (by omega)
    have h3 : 2 ^ 64 = 18446744073709551616 := by decide
    omega
  · exact h1
end Go.Proofs.Qxb6603401a
