import Derived.Test.Qxb6603805aMeetB
namespace Go.Proofs.Qxb6603805a

theorem meetL_self : ∀ (f : Nat) (C : List (Int × Int)), C.length ≤ f → meetL f C C = C
  | 0, C, h => by rw [List.eq_nil_of_length_eq_zero (by omega : C.length = 0)]; rfl
  | f + 1, [], _ => rfl
  | f + 1, p :: ps, h => by
    have h1 : ¬ p.1 < p.1 := by omega
    simp only [meetL, h1, if_false]
    rw [meetL_self f ps (by simp at h; omega)]
    simp

theorem meetL_mem : ∀ (f : Nat) (C D : List (Int × Int)), ∀ r ∈ meetL f C D, ∃ d ∈ D, d.1 = r.1
  | 0, _, _, r, h => by simp [meetL] at h
  | f + 1, [], _, r, h => by simp [meetL] at h
  | f + 1, _ :: _, [], r, h => by simp [meetL] at h
  | f + 1, p :: ps, q :: qs, r, h => by
    simp only [meetL] at h
    split at h
    · exact meetL_mem f ps (q :: qs) r h
    · split at h
      · obtain ⟨d, hd, e⟩ := meetL_mem f (p :: ps) qs r h
        exact ⟨d, List.mem_cons_of_mem _ hd, e⟩
      · rcases List.mem_cons.1 h with rfl | h
        · exact ⟨q, List.mem_cons_self, by simp; omega⟩
        · obtain ⟨d, hd, e⟩ := meetL_mem f ps qs r h
          exact ⟨d, List.mem_cons_of_mem _ hd, e⟩

theorem meetL_len : ∀ (f : Nat) (C D : List (Int × Int)), (meetL f C D).length ≤ C.length
  | 0, _, _ => by simp [meetL]
  | f + 1, [], _ => by simp [meetL]
  | f + 1, _ :: _, [] => by simp [meetL]
  | f + 1, p :: ps, q :: qs => by
    simp only [meetL]
    split
    · have := meetL_len f ps (q :: qs); simp; omega
    · split
      · exact meetL_len f (p :: ps) qs
      · have := meetL_len f ps qs; simp; omega

theorem meetL_absorb : ∀ (f : Nat) (C D : List (Int × Int)), D.Pairwise (fun a b => a.1 < b.1) → ∀ g, (meetL f C D).length + D.length ≤ g → meetL g (meetL f C D) D = meetL f C D
  | 0, C, D, _, g, _ => by simp only [meetL]; exact meetL_nil_left g D
  | f + 1, [], D, _, g, _ => by simp only [meetL]; exact meetL_nil_left g D
  | f + 1, p :: ps, [], _, g, _ => by simp only [meetL]; exact meetL_nil_left g []
  | f + 1, p :: ps, q :: qs, hD, g, hg => by
    by_cases h1 : p.1 < q.1
    · simp only [meetL, h1, if_true] at *
      exact meetL_absorb f ps (q :: qs) hD g hg
    · by_cases h2 : q.1 < p.1
      · simp only [meetL, h1, h2, if_false, if_true] at *
        obtain ⟨hq, hD'⟩ := List.pairwise_cons.1 hD
        have hlen : (q :: qs).length = qs.length + 1 := rfl
        cases g with
        | zero => omega
        | succ g =>
          have ih := meetL_absorb f (p :: ps) qs hD' g (by omega)
          generalize hM : meetL f (p :: ps) qs = M at *
          cases M with
          | nil => simp [meetL]
          | cons r rs =>
            obtain ⟨d, hd, e⟩ := meetL_mem f (p :: ps) qs r (by rw [hM]; exact List.mem_cons_self)
            have hlt : q.1 < r.1 := by rw [← e]; exact hq d hd
            have hn : ¬ r.1 < q.1 := by omega
            simp only [meetL, hlt, hn, if_true, if_false]
            exact ih
      · obtain ⟨hq, hD'⟩ := List.pairwise_cons.1 hD
        have e : meetL (f + 1) (p :: ps) (q :: qs) = (p.1, if q.2 < p.2 then q.2 else p.2) :: meetL f ps qs := by simp only [meetL, h1, h2, if_false]
        rw [e] at hg ⊢
        simp only [List.length_cons] at hg
        cases g with
        | zero => omega
        | succ g =>
          have ih := meetL_absorb f ps qs hD' g (by omega)
          simp only [meetL, h1, h2, if_false, ih]
          congr 2
          by_cases h3 : q.2 < p.2
          · simp [h3]
          · simp [h3]

theorem pairwise_of_rising : ∀ (xs ys : List Int), xs.length = ys.length → (∀ j, j + 1 < xs.length → xs.getD j 0 < xs.getD (j + 1) 0) → (xs.zip ys).Pairwise (fun a b => a.1 < b.1)
  | [], _, _, _ => by simp
  | x :: xs, [], h, _ => by simp at h
  | x :: xs, y :: ys, h, hr => by
    have hl : xs.length = ys.length := by simpa using h
    rw [List.zip_cons_cons, List.pairwise_cons]
    have ih := pairwise_of_rising xs ys hl (fun j hj => by simpa using hr (j + 1) (by simpa using hj))
    refine ⟨?_, ih⟩
    cases xs with
    | nil => simp
    | cons x2 xs =>
      cases ys with
      | nil => simp at hl
      | cons y2 ys =>
        have h0 : x < x2 := by simpa using hr 0 (by simp)
        rw [List.zip_cons_cons, List.pairwise_cons] at ih
        rw [List.zip_cons_cons]
        intro a ha
        rcases List.mem_cons.1 ha with rfl | ha
        · exact h0
        · have := ih.1 a ha
          simp at this ⊢
          omega
end Go.Proofs.Qxb6603805a
