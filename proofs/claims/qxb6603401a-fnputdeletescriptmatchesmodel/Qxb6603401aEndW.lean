import Derived.Test.Qxb6603401aWand
namespace Go.Proofs.Qxb6603401a
open Go Go.RowKit

/-- What the grown node holds, whatever child stands at the grown one's place. -/
theorem Grown.ents_any {d : Nat} {σ σ' : Store} {n : Nat} {its : List It} {A : List (Tr d)} {c : Tr d} {C : List (Tr d)} {its' : List It} {A' : List (Tr d)} {c' : Tr d} {C' : List (Tr d)} (h : Grown σ σ' n its A c C its' A' c' C') (c2 : Tr d) :
    (node n its' (A' ++ c2 :: C')).ents = pre (its'.take A'.length) (A'.map Tr.ents) ++ c2.ents ++ post (its'.drop A'.length) (C'.map Tr.ents) := by
  have hl := h.klen
  have hA : A'.length ≤ its'.length := by simp at hl; omega
  have hC : C'.length = its'.length - A'.length := by simp at hl; omega
  have := ents_at n (its'.take A'.length) (its'.drop A'.length) A' C' c2 (by rw [List.length_take]; omega) (by rw [List.length_drop]; omega)
  rw [List.take_append_drop] at this
  exact this
theorem Grown.ents_old {d : Nat} {σ σ' : Store} {n : Nat} {its : List It} {A : List (Tr d)} {c : Tr d} {C : List (Tr d)} {its' : List It} {A' : List (Tr d)} {c' : Tr d} {C' : List (Tr d)} (h : Grown σ σ' n its A c C its' A' c' C') (hl : (A ++ c :: C).length = its.length + 1) :
    (node n its (A ++ c :: C)).ents = pre (its'.take A'.length) (A'.map Tr.ents) ++ c'.ents ++ post (its'.drop A'.length) (C'.map Tr.ents) := by
  obtain ⟨X, Y, h1, h2, h3⟩ := h.holds
  have hA : A.length ≤ its.length := by simp at hl; omega
  have hC : C.length = its.length - A.length := by simp at hl; omega
  have := ents_at n (its.take A.length) (its.drop A.length) A C c (by rw [List.length_take]; omega) (by rw [List.length_drop]; omega)
  rw [List.take_append_drop] at this
  rw [this, h2, h3, h1]
  simp
theorem Grown.ents {d : Nat} {σ σ' : Store} {n : Nat} {its : List It} {A : List (Tr d)} {c : Tr d} {C : List (Tr d)} {its' : List It} {A' : List (Tr d)} {c' : Tr d} {C' : List (Tr d)} (h : Grown σ σ' n its A c C its' A' c' C') (hl : (A ++ c :: C).length = its.length + 1) :
    (node n its' (A' ++ c' :: C')).ents = (node n its (A ++ c :: C)).ents := by
  rw [h.ents_old hl, h.ents_any c']
theorem Grown.okAt {d : Nat} {σ σ' : Store} {n : Nat} {its : List It} {A : List (Tr d)} {c : Tr d} {C : List (Tr d)} {its' : List It} {A' : List (Tr d)} {c' : Tr d} {C' : List (Tr d)} (h : Grown σ σ' n its A c C its' A' c' C') {m : Nat} (hm : m + 1 ≤ its.length) (h31 : its.length ≤ 31) {c2 : Tr d} (h2 : c2.Ok 15) : (node n its' (A' ++ c2 :: C')).Ok m := by
  have hc := h.count
  have hl := h.klen
  refine ⟨?_, ?_, ?_, fun k hk => ?_⟩
  · show m ≤ its'.length; omega
  · show its'.length ≤ 31; omega
  · show (A' ++ c2 :: C').length = its'.length + 1
    simp at hl ⊢; omega
  · have hk' : k ∈ A' ++ c2 :: C' := hk
    simp only [List.mem_append, List.mem_cons] at hk'
    rcases hk' with h1 | rfl | h1
    · exact h.ok k (by simp [h1])
    · exact h2
    · exact h.ok k (by simp [h1])

def endE (last : Bool) (es : List It) (x : It) : List It := if last then es ++ [x] else x :: es

def EndW (last : Bool) {d0 : Nat} (t0 : Tr d0) (σ0 : Store) {d : Nat} (σ : Store) (t : Tr d) : Prop :=
  ∀ (t2 : Tr d) (σ2 : Store) (x : It), Upd σ σ2 t.ids t2.ids → Has σ2 t2 → t2.root = t.root → t2.Ok 15 → t.ents = endE last t2.ents x → ∃ T : Tr d0, Has σ2 T ∧ Upd σ0 σ2 t0.ids T.ids ∧ T.root = t0.root ∧ T.Ok 15 ∧ t0.ents = endE last T.ents x

theorem EndW.down {last : Bool} {d0 : Nat} {t0 : Tr d0} {σ0 : Store} {d : Nat} {σ σ' : Store} {n : Nat} {its : List It} {A : List (Tr d)} {c : Tr d} {C : List (Tr d)} {its' : List It} {A' : List (Tr d)} {c' : Tr d} {C' : List (Tr d)}
    (h : EndW last t0 σ0 σ (node n its (A ++ c :: C))) (hg : Grown σ σ' n its A c C its' A' c' C') (hl : (A ++ c :: C).length = its.length + 1) (h16 : 16 ≤ its.length) (h31 : its.length ≤ 31) (he : if last then C = [] else A = []) : EndW last t0 σ0 σ' c' := by
  intro t2 σ2 x hu hh hr hok hents
  have hp := plug hg.has hu hh hr
  refine h _ σ2 x (hg.upd.trans hp.2) hp.1 rfl (hg.okAt (by omega) h31 hok) ?_
  rw [hg.ents_old hl, hg.ents_any t2, hents]
  obtain ⟨X, Y, h1, h2, h3⟩ := hg.holds
  cases last with
  | true =>
    simp only [if_true] at he
    subst he
    have hA : A.length = its.length := by simp at hl; omega
    rw [hA, List.drop_length] at h3
    have h3' : Y ++ post (its'.drop A'.length) (C'.map Tr.ents) = [] := h3.symm
    rw [List.append_eq_nil_iff] at h3'
    rw [h3'.2]
    simp [endE]
  | false =>
    simp only [Bool.false_eq_true, if_false] at he
    subst he
    have h2' : pre (its'.take A'.length) (A'.map Tr.ents) ++ X = [] := by
      rw [← h2]; simp [pre]
    rw [List.append_eq_nil_iff] at h2'
    rw [h2'.1]
    simp [endE]
end Go.Proofs.Qxb6603401a
