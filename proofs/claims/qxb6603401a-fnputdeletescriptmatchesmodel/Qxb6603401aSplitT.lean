import Derived.Test.Qxb6603401aGet
namespace Go.Proofs.Qxb6603401a
open Go Go.RowKit

/-- A FULL NODE IN TWO. -/
theorem surg_split : {d : Nat} → (t : Tr d) → (m0 : Nat) → t.Ok m0 → t.its.length = 31 → (m : Nat) →
    ∃ (l r : Tr d) (x : It), t.its[15]? = some x ∧ l.root = t.root ∧ r.root = m ∧ l.nd = ⟨t.its.take 15, t.nd.kids.map (List.take 16)⟩ ∧ r.nd = ⟨t.its.drop 16, t.nd.kids.map (List.drop 16)⟩ ∧ (∀ ks, t.nd.kids = some ks → ks.length = 32) ∧
      t.ents = l.ents ++ x :: r.ents ∧ l.Ok 15 ∧ r.Ok 15 ∧ l.its.length = 15 ∧ r.its.length = 15 ∧
      (∀ σ σ' : Store, t.In σ → t.ids.Nodup → σ m = none → σ' t.root = some l.nd → σ' m = some r.nd → (∀ x ∈ t.ids, x ≠ t.root → σ' x = σ x) → l.In σ' ∧ r.In σ' ∧ (l.ids ++ r.ids).Nodup ∧ ∀ x ∈ l.ids ++ r.ids, x ∈ t.ids ∨ x = m)
  | 0, (b, its), m0, hok, hl, m => by
    have hl' : its.length = 31 := hl
    have hx : its[15]? = some its[15] := List.getElem?_eq_getElem (by omega)
    have hits : its = its.take 15 ++ its[15] :: its.drop 16 := by
      have := drop_at hx
      rw [List.append_assoc, List.singleton_append] at this
      exact this
    refine ⟨leaf b (its.take 15), leaf m (its.drop 16), its[15], hx, rfl, rfl, rfl, rfl, (fun ks h => by cases h), hits, ⟨?_, ?_⟩, ⟨?_, ?_⟩, ?_, ?_, ?_⟩
    · show 15 ≤ (its.take 15).length; rw [List.length_take]; omega
    · show (its.take 15).length ≤ 31; rw [List.length_take]; omega
    · show 15 ≤ (its.drop 16).length; rw [List.length_drop]; omega
    · show (its.drop 16).length ≤ 31; rw [List.length_drop]; omega
    · show (its.take 15).length = 15; rw [List.length_take]; omega
    · show (its.drop 16).length = 15; rw [List.length_drop]; omega
    · intro σ σ' hI _ hm h1 h2 _
      refine ⟨h1, h2, ?_, ?_⟩
      · show [b, m].Nodup
        have hI' : σ b = some ⟨its, none⟩ := hI
        simp only [List.nodup_cons, List.mem_singleton, List.not_mem_nil, not_false_eq_true, List.nodup_nil, and_true]
        rintro rfl
        rw [hm] at hI'; cases hI'
      · intro x hx
        have : x ∈ [b, m] := hx
        simp only [List.mem_cons, List.not_mem_nil, or_false] at this
        rcases this with rfl | rfl
        · exact .inl (List.mem_singleton.2 rfl)
        · exact .inr rfl
  | d + 1, (b, its, ks), m0, hok, hl, m => by
    have hl' : its.length = 31 := hl
    obtain ⟨_, _, hk1, hk2⟩ := hok
    simp only at hk1 hk2
    have hx : its[15]? = some its[15] := List.getElem?_eq_getElem (by omega)
    have hits : its = its.take 15 ++ its[15] :: its.drop 16 := by
      have := drop_at hx
      rw [List.append_assoc, List.singleton_append] at this
      exact this
    have hks : ks = ks.take 16 ++ ks.drop 16 := (List.take_append_drop 16 ks).symm
    refine ⟨node b (its.take 15) (ks.take 16), node m (its.drop 16) (ks.drop 16), its[15], hx, rfl, rfl, ?_, ?_, (fun k h => by cases h; simp; omega), ?_, ⟨?_, ?_, ?_, ?_⟩, ⟨?_, ?_, ?_, ?_⟩, ?_, ?_, ?_⟩
    · show Nd.mk _ (some ((ks.take 16).map Tr.root)) = Nd.mk _ (some ((ks.map Tr.root).take 16))
      rw [List.map_take]
      rfl
    · show Nd.mk _ (some ((ks.drop 16).map Tr.root)) = Nd.mk _ (some ((ks.map Tr.root).drop 16))
      rw [List.map_drop]
      rfl
    · show inter its (ks.map Tr.ents) = inter (its.take 15) ((ks.take 16).map Tr.ents) ++ its[15] :: inter (its.drop 16) ((ks.drop 16).map Tr.ents)
      conv => lhs; rw [hits, hks, List.map_append]
      exact inter_join _ _ _ _ _ (by rw [List.length_map, List.length_take, List.length_take]; omega)
    · show 15 ≤ (its.take 15).length; rw [List.length_take]; omega
    · show (its.take 15).length ≤ 31; rw [List.length_take]; omega
    · show (ks.take 16).length = (its.take 15).length + 1; rw [List.length_take, List.length_take]; omega
    · intro k hk; exact hk2 k (List.mem_of_mem_take hk)
    · show 15 ≤ (its.drop 16).length; rw [List.length_drop]; omega
    · show (its.drop 16).length ≤ 31; rw [List.length_drop]; omega
    · show (ks.drop 16).length = (its.drop 16).length + 1; rw [List.length_drop, List.length_drop]; omega
    · intro k hk; exact hk2 k (List.mem_of_mem_drop hk)
    · show (its.take 15).length = 15; rw [List.length_take]; omega
    · show (its.drop 16).length = 15; rw [List.length_drop]; omega
    · intro σ σ' hI hnd hm h1 h2 hag
      have hI' : ∀ k ∈ ks, k.In σ := hI.2
      have hnd' : (b :: ks.flatMap Tr.ids).Nodup := hnd
      rw [List.nodup_cons] at hnd'
      have hmn : m ∉ b :: ks.flatMap Tr.ids := fun h => (Tr.In.ne (t := node b its ks) hI m h) hm
      have hA : ∀ x ∈ ks.flatMap Tr.ids, σ' x = σ x := fun x hx => hag x (List.mem_cons_of_mem _ hx) (fun e => hnd'.1 (by rw [show b = x from e.symm]; exact hx))
      have a1 := in_all hI' hA
      have hids : ks.flatMap Tr.ids = (ks.take 16).flatMap Tr.ids ++ (ks.drop 16).flatMap Tr.ids := by
        rw [← List.flatMap_append, List.take_append_drop]
      refine ⟨⟨h1, fun k hk => a1 k (List.mem_of_mem_take hk)⟩, ⟨h2, fun k hk => a1 k (List.mem_of_mem_drop hk)⟩, ?_, ?_⟩
      · show ((b :: (ks.take 16).flatMap Tr.ids) ++ (m :: (ks.drop 16).flatMap Tr.ids)).Nodup
        refine (List.Perm.nodup_iff (List.perm_middle (l₁ := b :: (ks.take 16).flatMap Tr.ids) (l₂ := (ks.drop 16).flatMap Tr.ids) (a := m))).2 ?_
        rw [List.cons_append, ← hids]
        exact List.nodup_cons.2 ⟨hmn, List.nodup_cons.2 hnd'⟩
      · intro x hx
        have hx' : x ∈ (b :: (ks.take 16).flatMap Tr.ids) ++ (m :: (ks.drop 16).flatMap Tr.ids) := hx
        show x ∈ b :: ks.flatMap Tr.ids ∨ _
        rw [hids]
        simp only [List.mem_append, List.mem_cons] at hx' ⊢
        rcases hx' with (h | h) | h | h
        · exact .inl (.inl h)
        · exact .inl (.inr (.inl h))
        · exact .inr h
        · exact .inl (.inr (.inr h))
end Go.Proofs.Qxb6603401a
