import Derived.Test.Qxb6603401aTree
import Derived.Test.Qxb6603401aGrowC
import Derived.Test.Qxb6603401aGrowD
import Derived.Test.Qxb6603401aGrowE
namespace Go.Proofs.Qxb6603401a
open Go Go.RowKit

/-- What 'grow' has done to node n, whose child c (behind the children A) was to grow. -/
structure Grown {d : Nat} (σ σ' : Store) (n : Nat) (its : List It) (A : List (Tr d)) (c : Tr d) (C : List (Tr d)) (its' : List It) (A' : List (Tr d)) (c' : Tr d) (C' : List (Tr d)) : Prop where
  has : Has σ' (node n its' (A' ++ c' :: C'))
  upd : Upd σ σ' (node n its (A ++ c :: C)).ids (node n its' (A' ++ c' :: C')).ids
  klen : (A' ++ c' :: C').length = its'.length + 1
  ok : ∀ k ∈ A' ++ c' :: C', k.Ok 15
  full : 16 ≤ c'.its.length
  count : its'.length = its.length ∨ (its'.length + 1 = its.length ∧ c'.its.length = 31)
  index : A'.length = A.length ∨ A'.length + 1 = A.length
  holds : ∃ X Y, c'.ents = X ++ c.ents ++ Y ∧ pre (its.take A.length) (A.map Tr.ents) = pre (its'.take A'.length) (A'.map Tr.ents) ++ X ∧ post (its.drop A.length) (C.map Tr.ents) = Y ++ post (its'.drop A'.length) (C'.map Tr.ents)
  spare : 15 < c.its.length → σ' = σ ∧ its' = its ∧ A' = A ∧ c' = c ∧ C' = C

/-- The ids of two neighbours, by the whole tree's. -/
theorem two_ids {d : Nat} {n : Nat} {its : List It} {A C : List (Tr d)} {l c : Tr d} {σ : Store} (h : Has σ (node n its (A ++ l :: c :: C))) : (l.ids ++ c.ids).Nodup ∧ n ∉ l.ids ∧ n ∉ c.ids ∧ l.In σ ∧ c.In σ ∧ σ n = some ⟨its, some ((A ++ l :: c :: C).map Tr.root)⟩ := by
  have hnd : (n :: ((A ++ l :: c :: C).flatMap Tr.ids)).Nodup := h.once
  have hin : σ n = some ⟨its, some ((A ++ l :: c :: C).map Tr.root)⟩ ∧ ∀ k ∈ A ++ l :: c :: C, Tr.In σ k := h.here
  rw [List.nodup_cons, List.flatMap_append, List.flatMap_cons, List.flatMap_cons] at hnd
  obtain ⟨h1, h2⟩ := hnd
  simp only [List.mem_append, not_or] at h1
  refine ⟨?_, h1.2.1, h1.2.2.1, hin.2 l (by simp), hin.2 c (by simp), hin.1⟩
  have := (List.nodup_append.1 h2).2.1
  rw [← List.append_assoc] at this
  exact (List.nodup_append.1 this).1

theorem ne_of_two {d : Nat} {l c : Tr d} (h : (l.ids ++ c.ids).Nodup) : l.root ≠ c.root := fun e => (List.nodup_append.1 h).2.2 l.root l.root_mem c.root c.root_mem e

theorem two_mid {d : Nat} (A C : List (Tr d)) (l c : Tr d) : A ++ l :: c :: C = A ++ [l, c] ++ C := by simp

/-- Two neighbours have turned, and an item of the node. -/
theorem turn_two {d : Nat} {σ : Store} {n : Nat} {its its' : List It} {A C : List (Tr d)} {l c l' c' : Tr d} (h : Has σ (node n its (A ++ l :: c :: C))) (hl : l'.root = l.root) (hc : c'.root = c.root) (hp : (l'.ids ++ c'.ids).Perm (l.ids ++ c.ids))
    (hin : ∀ σ σ' : Store, l.In σ → c.In σ → (l.ids ++ c.ids).Nodup → σ' l.root = some l'.nd → σ' c.root = some c'.nd → (∀ x ∈ l.ids ++ c.ids, x ≠ l.root → x ≠ c.root → σ' x = σ x) → l'.In σ' ∧ c'.In σ')
    {σ' : Store} (hn' : σ' n = some ⟨its', some ((A ++ l :: c :: C).map Tr.root)⟩) (hl' : σ' l.root = some l'.nd) (hc' : σ' c.root = some c'.nd) (ho : ∀ x, x ≠ n → x ≠ l.root → x ≠ c.root → σ' x = σ x) :
    Has σ' (node n its' (A ++ l' :: c' :: C)) ∧ Upd σ σ' (node n its (A ++ l :: c :: C)).ids (node n its' (A ++ l' :: c' :: C)).ids := by
  obtain ⟨hnd, h1, h2, hlI, hcI, _⟩ := two_ids h
  obtain ⟨i1, i2⟩ := hin σ σ' hlI hcI hnd hl' hc' (fun x hx e1 e2 => ho x (fun e => by
    subst e
    rcases List.mem_append.1 hx with hx | hx
    · exact h1 hx
    · exact h2 hx) e1 e2)
  rw [two_mid] at h
  rw [two_mid A C l c, two_mid A C l' c']
  refine regraft h ?_ ?_ ?_ ?_ ?_
  · rw [hn']; simp [hl, hc]
  · intro k hk
    simp only [List.mem_cons, List.not_mem_nil, or_false] at hk
    rcases hk with rfl | rfl
    · exact i1
    · exact i2
  · simpa using (List.Perm.nodup_iff hp).2 hnd
  · intro x hx
    have hx' : x ∈ l'.ids ++ c'.ids := by simpa using hx
    have := (List.Perm.mem_iff hp).1 hx'
    exact .inl (by simpa using this)
  · intro x e hx _
    have hx' : x ∉ l.ids ++ c.ids := by simpa using hx
    simp only [List.mem_append, not_or] at hx'
    exact ho x e (fun e => hx'.1 (e ▸ l.root_mem)) (fun e => hx'.2 (e ▸ c.root_mem))

/-- Two neighbours have become one. -/
theorem turn_one {d : Nat} {σ : Store} {n : Nat} {its its' : List It} {A C : List (Tr d)} {l c m : Tr d} (h : Has σ (node n its (A ++ l :: c :: C))) (hm : m.root = l.root) (hs : ∀ x ∈ m.ids, x ∈ l.ids ++ c.ids) (hnm : (l.ids ++ c.ids).Nodup → m.ids.Nodup)
    (hin : ∀ σ σ' : Store, l.In σ → c.In σ → (l.ids ++ c.ids).Nodup → σ' l.root = some m.nd → (∀ x ∈ l.ids ++ c.ids, x ≠ l.root → σ' x = σ x) → m.In σ')
    {σ' : Store} (hn' : σ' n = some ⟨its', some ((A ++ l :: C).map Tr.root)⟩) (hl' : σ' l.root = some m.nd) (ho : ∀ x, x ≠ n → x ≠ l.root → σ' x = σ x) :
    Has σ' (node n its' (A ++ m :: C)) ∧ Upd σ σ' (node n its (A ++ l :: c :: C)).ids (node n its' (A ++ m :: C)).ids := by
  obtain ⟨hnd, h1, h2, hlI, hcI, _⟩ := two_ids h
  have i1 := hin σ σ' hlI hcI hnd hl' (fun x hx e1 => ho x (fun e => by
    subst e
    rcases List.mem_append.1 hx with hx | hx
    · exact h1 hx
    · exact h2 hx) e1)
  rw [two_mid] at h
  rw [two_mid A C l c, mid_one A C m]
  refine regraft h ?_ ?_ ?_ ?_ ?_
  · rw [hn']; simp [hm]
  · intro k hk
    rw [List.mem_singleton.1 hk]
    exact i1
  · simpa using hnm hnd
  · intro x hx
    have hx' : x ∈ m.ids := by simpa using hx
    have := hs x hx'
    exact .inl (by simpa using this)
  · intro x e hx _
    have hx' : x ∉ l.ids ++ c.ids := by simpa using hx
    simp only [List.mem_append, not_or] at hx'
    exact ho x e (fun e => hx'.1 (e ▸ l.root_mem))

theorem kids_get {d : Nat} (A C : List (Tr d)) (c : Tr d) : ((A ++ c :: C).map Tr.root)[A.length]? = some c.root := by simp
theorem kids_get1 {d : Nat} (A C : List (Tr d)) (c r : Tr d) : ((A ++ c :: r :: C).map Tr.root)[A.length + 1]? = some r.root := by
  have : A ++ c :: r :: C = (A ++ [c]) ++ r :: C := by simp
  rw [this]
  have h := kids_get (A ++ [c]) C r
  rw [List.length_append, List.length_singleton] at h
  exact h
theorem erase_mid {α : Type} (I J : List α) (y : α) {i : Nat} (h : i = I.length) : (I ++ y :: J).eraseIdx i = I ++ J := by
  subst h; simp [List.eraseIdx_append_of_length_le]
theorem get_mid {α : Type} (I J : List α) (y : α) {i : Nat} (h : i = I.length) : (I ++ y :: J)[i]? = some y := by
  subst h; simp
theorem split_at {α : Type} (l : List α) {i : Nat} (h : i < l.length) : ∃ I y J, l = I ++ y :: J ∧ I.length = i := by
  refine ⟨l.take i, l[i], l.drop (i + 1), ?_, by rw [List.length_take]; omega⟩
  rw [List.getElem_cons_drop, List.take_append_drop]

theorem take_mid1 {α : Type} (I J : List α) (y : α) : (I ++ y :: J).take (I.length + 1) = I ++ [y] := by
  have : I ++ y :: J = (I ++ [y]) ++ J := by simp
  rw [this]
  have h : I.length + 1 = (I ++ [y]).length := by simp
  rw [h, List.take_left]
theorem drop_mid1 {α : Type} (I J : List α) (y : α) : (I ++ y :: J).drop (I.length + 1) = J := by
  have : I ++ y :: J = (I ++ [y]) ++ J := by simp
  rw [this]
  have h : I.length + 1 = (I ++ [y]).length := by simp
  rw [h, List.drop_left]

def GrowPost {d : Nat} (F : Keep) (B n : Nat) (its : List It) (A : List (Tr d)) (c : Tr d) (C : List (Tr d)) (σ : Store) (w : World) (e : Ending) (w' : World) : Prop :=
  ∃ (its' : List It) (A' : List (Tr d)) (c' : Tr d) (C' : List (Tr d)) (σ' : Store), e = .returned (ptr c'.root) ∧ Env F B σ' w' ∧ Below B w w' ∧ Grown σ σ' n its A c C its' A' c' C'

theorem ok_two {d : Nat} {A C : List (Tr d)} {l c l' c' : Tr d} (h : ∀ k ∈ A ++ l :: c :: C, k.Ok 15) (hl : l'.Ok 15) (hc : c'.Ok 15) : ∀ k ∈ A ++ l' :: c' :: C, k.Ok 15 := by
  intro k hk
  simp only [List.mem_append, List.mem_cons] at hk
  rcases hk with hk | rfl | rfl | hk
  · exact h k (by simp [hk])
  · exact hl
  · exact hc
  · exact h k (by simp [hk])

set_option maxHeartbeats 1000000 in
theorem grow_tree {d : Nat} (F : Keep) (B tb n : Nat) (its : List It) (A : List (Tr d)) (c : Tr d) (C : List (Tr d)) (σ : Store) (w : World) (hg : Gen tb w) (ht : tb < B) (he : Env F B σ w) (hh : Has σ (node n its (A ++ c :: C)))
    (hlen : (A ++ c :: C).length = its.length + 1) (h1 : 1 ≤ its.length) (hok : ∀ k ∈ A ++ c :: C, k.Ok 15) :
    Calls Try.prog 51 #[.pointer (some ⟨tb, 0, none⟩), ptr n, .int .i64 (A.length : Nat)] w (GrowPost F B n its A c C σ w) := by
  have hin : σ n = some ⟨its, some ((A ++ c :: C).map Tr.root)⟩ ∧ ∀ k ∈ A ++ c :: C, Tr.In σ k := hh.here
  have hcI := hin.2 c (by simp)
  have hcn := hcI.in_root
  have hcok := hok c (by simp)
  have hl' : ((A ++ c :: C).map Tr.root).length = its.length + 1 := by rw [List.length_map]; exact hlen
  by_cases hsp : 15 < c.its.length
  · refine (grow_spare F B tb n A.length c.root its c.its _ c.nd.kids σ w hg he hin.1 (kids_get A C c) (by rw [hcn, ← c.nd_its]) hsp).mono ?_
    rintro e w' ⟨rfl, he', hb'⟩
    exact ⟨its, A, c, C, σ, rfl, he', hb', hh, Upd.refl _ _, hlen, hok, hsp, .inl rfl, .inl rfl, ⟨[], [], by simp, by simp, by simp⟩, fun _ => ⟨rfl, rfl, rfl, rfl, rfl⟩⟩
  have hc15 : c.its.length ≤ 15 := by omega
  by_cases hleft : ∃ A0 l, A = A0 ++ [l] ∧ 15 < l.its.length
  · -- from the left
    obtain ⟨A0, l, rfl, hl15⟩ := hleft
    have hjl : A0.length < its.length := by simp at hlen; omega
    obtain ⟨I1, y, I2, rfl, hI1⟩ := split_at its hjl
    have e1 : A0 ++ [l] ++ c :: C = A0 ++ l :: c :: C := by simp
    rw [e1] at hh hlen hok hin hl'
    obtain ⟨hnd, hn1, hn2, hlI, _, hsn⟩ := two_ids hh
    obtain ⟨l', c', z, li, X, lk, ck, lk', ck', hlnd, hcnd, hlnd', hcnd', hk2, hlr, hcr, hperm, hlok', hcok', h16, hX, hL, hli, hsin⟩ := surg_left l c (hok l (by simp)) hcok hl15 hc15 y
    have hlcne : l.root ≠ c.root := ne_of_two hnd
    have hlne : l.root ≠ n := fun e => hn1 (e ▸ l.root_mem)
    have hcne : c.root ≠ n := fun e => hn2 (e ▸ c.root_mem)
    have hll : (A0 ++ [l]).length = A0.length + 1 := by simp
    have hkl := kids_get A0 (c :: C) l
    have hkc := kids_get1 A0 C l c
    have HG := grow_left F B tb n A0.length c.root l.root (I1 ++ y :: I2) c.its li y z _ ck lk ck' lk' σ w hg ht he hsn hl' hjl hkl hkc (by rw [hlI.in_root, hlnd]) (by rw [hcn, hcnd]) hlcne hlne hcne hk2 (get_mid I1 I2 y hI1.symm) hc15 hli
    have ecast : (((A0 ++ [l]).length : Nat) : Int) = (A0.length : Int) + 1 := by rw [hll]; omega
    rw [ecast]
    refine HG.mono ?_
    rintro e w' ⟨rfl, he', hb'⟩
    have hset : (I1 ++ y :: I2).set A0.length z = I1 ++ z :: I2 := by rw [← hI1]; simp
    rw [hset] at he'
    have ht2 := turn_two (its' := I1 ++ z :: I2) hh hlr hcr hperm hsin (σ' := ((σ.set n ⟨I1 ++ z :: I2, some ((A0 ++ l :: c :: C).map Tr.root)⟩).set l.root ⟨li, lk'⟩).set c.root ⟨y :: c.its, ck'⟩)
      (by rw [Store.set_other _ _ hcne.symm, Store.set_other _ _ hlne.symm, Store.set_same]) (by rw [Store.set_other _ _ hlcne, Store.set_same, hlnd']) (by rw [Store.set_same, hcnd']) (fun x e1 e2 e3 => by rw [Store.set_other _ _ e3, Store.set_other _ _ e2, Store.set_other _ _ e1])
    have e2 : A0 ++ l' :: c' :: C = (A0 ++ [l']) ++ c' :: C := by simp
    refine ⟨I1 ++ z :: I2, A0 ++ [l'], c', C, _, by rw [hcr], he', hb', ?_, ?_, ?_, ?_, h16, .inl (by simp), .inl (by simp), ⟨X, [], by rw [hX]; simp, ?_, ?_⟩, fun h => absurd h (by omega)⟩
    · rw [← e2]; exact ht2.1
    · rw [← e2, e1]; exact ht2.2
    · rw [← e2]; simp at hlen ⊢; omega
    · rw [← e2]; exact ok_two hok hlok' hcok'
    · have t1 : (I1 ++ y :: I2).take (A0 ++ [l]).length = I1 ++ [y] := by rw [hll, ← hI1]; exact take_mid1 _ _ _
      have t2 : (I1 ++ z :: I2).take (A0 ++ [l']).length = I1 ++ [z] := by rw [List.length_append, List.length_singleton, ← hI1]; exact take_mid1 _ _ _
      rw [t1, t2, List.map_append, List.map_append, List.map_singleton, List.map_singleton, pre_snoc _ _ _ _ (by simp [hI1]), pre_snoc _ _ _ _ (by simp [hI1])]
      rw [List.append_assoc, hL]
      simp
    · have t1 : (I1 ++ y :: I2).drop (A0 ++ [l]).length = I2 := by rw [hll, ← hI1]; exact drop_mid1 _ _ _
      have t2 : (I1 ++ z :: I2).drop (A0 ++ [l']).length = I2 := by rw [List.length_append, List.length_singleton, ← hI1]; exact drop_mid1 _ _ _
      rw [t1, t2]
      simp
  by_cases hright : ∃ r C0, C = r :: C0
  · obtain ⟨r, C0, rfl⟩ := hright
    have hjl : A.length < its.length := by simp at hlen; omega
    obtain ⟨I1, y, I2, rfl, hI1⟩ := split_at its hjl
    obtain ⟨hnd, hn1, hn2, _, hrI, hsn⟩ := two_ids hh
    have hcrne : c.root ≠ r.root := ne_of_two hnd
    have hcne : c.root ≠ n := fun e => hn1 (e ▸ c.root_mem)
    have hrne : r.root ≠ n := fun e => hn2 (e ▸ r.root_mem)
    have hkc := kids_get A (r :: C0) c
    have hkr := kids_get1 A C0 c r
    have hrok := hok r (by simp)
    have hno : ∀ j, A.length = j + 1 → ∃ l nl, ((A ++ c :: r :: C0).map Tr.root)[j]? = some l ∧ σ l = some nl ∧ nl.its.length ≤ 15 := by
      intro j hj
      obtain ⟨A0, l, rfl⟩ := snoc_of (l := A) (by intro h; rw [h] at hj; simp at hj)
      have hj' : j = A0.length := by simp at hj; omega
      subst hj'
      refine ⟨l.root, l.nd, by simp, (hin.2 l (by simp)).in_root, ?_⟩
      rw [l.nd_its]
      exact Nat.le_of_not_lt (fun h => hleft ⟨A0, l, rfl, h⟩)
    by_cases hr15 : 15 < r.its.length
    · -- from the right
      obtain ⟨c', r', z, ri, Y, ck, rk, ck', rk', hrnd, hcnd, hrnd', hcnd', hk2, hrr, hcr, hperm, hrok', hcok', h16, hX, hL, hri, hsin⟩ := surg_right c r hcok hrok hr15 hc15 y
      have HG : Calls Try.prog 51 #[.pointer (some ⟨tb, 0, none⟩), ptr n, .int .i64 (A.length : Nat)] w fun e w' => e = .returned (ptr c.root) ∧
          Env F B (((σ.set n ⟨(I1 ++ y :: I2).set A.length z, some ((A ++ c :: r :: C0).map Tr.root)⟩).set r.root ⟨ri, rk'⟩).set c.root ⟨c.its ++ [y], ck'⟩) w' ∧ Below B w w' := by
        by_cases h0 : A.length = 0
        · exact grow_right_first F B tb n A.length c.root r.root (I1 ++ y :: I2) c.its ri y z _ ck rk ck' rk' σ w hg ht he hsn hl' hjl hkc hkr (by rw [hcn, hcnd]) (by rw [hrI.in_root, hrnd]) hcrne hcne hrne hk2 (get_mid I1 I2 y hI1.symm) hc15 hri h0
        · obtain ⟨l, nl, g1, g2, g3⟩ := hno (A.length - 1) (by omega)
          exact grow_right_mid F B tb n A.length c.root r.root (I1 ++ y :: I2) c.its ri y z _ ck rk ck' rk' σ w hg ht he hsn hl' hjl hkc hkr (by rw [hcn, hcnd]) (by rw [hrI.in_root, hrnd]) hcrne hcne hrne hk2 (get_mid I1 I2 y hI1.symm) hc15 hri (A.length - 1) l nl (by omega) g1 g2 g3
      refine HG.mono ?_
      rintro e w' ⟨rfl, he', hb'⟩
      have hset : (I1 ++ y :: I2).set A.length z = I1 ++ z :: I2 := by rw [← hI1]; simp
      rw [hset] at he'
      have ht2 := turn_two (its' := I1 ++ z :: I2) hh hcr hrr hperm hsin (σ' := ((σ.set n ⟨I1 ++ z :: I2, some ((A ++ c :: r :: C0).map Tr.root)⟩).set r.root ⟨ri, rk'⟩).set c.root ⟨c.its ++ [y], ck'⟩)
        (by rw [Store.set_other _ _ hcne.symm, Store.set_other _ _ hrne.symm, Store.set_same]) (by rw [Store.set_same, hcnd']) (by rw [Store.set_other _ _ hcrne.symm, Store.set_same, hrnd']) (fun x e1 e2 e3 => by rw [Store.set_other _ _ e2, Store.set_other _ _ e3, Store.set_other _ _ e1])
      refine ⟨I1 ++ z :: I2, A, c', r' :: C0, _, by rw [hcr], he', hb', ht2.1, ht2.2, ?_, ok_two hok hcok' hrok', h16, .inl (by simp), .inl rfl, ⟨[], Y, by rw [hX]; simp, ?_, ?_⟩, fun h => absurd h (by omega)⟩
      · simp at hlen ⊢; omega
      · rw [← hI1]; simp
      · rw [← hI1]
        simp only [List.drop_left, List.map_cons, post]
        rw [hL]
        simp
    · -- two become one
      obtain ⟨m, ck, rk, mk, hrnd, hcnd, hmnd, hmk, hk2, hmr, hms, hmn, hmok, hm31, hme, hsin⟩ := surg_merge c r hcok hrok (by omega) hc15 y
      have hr15' : r.its.length ≤ 15 := by omega
      have HG := grow_merge F B tb n A.length c.root r.root (I1 ++ y :: I2) c.its r.its _ ck rk σ w hg ht he hsn hl' hjl hkc hkr (by rw [hcn, hcnd]) (by rw [hrI.in_root, hrnd]) hcrne hcne hrne (by omega) hk2 y (get_mid I1 I2 y hI1.symm) hc15 hr15' hno
      refine HG.mono ?_
      rintro e w' ⟨rfl, he', hb'⟩
      have hk1 : ((A ++ c :: r :: C0).map Tr.root).eraseIdx (A.length + 1) = (A ++ c :: C0).map Tr.root := by
        have : A ++ c :: r :: C0 = (A ++ [c]) ++ r :: C0 := by simp
        rw [this, List.map_append, List.map_cons, erase_mid _ _ _ (by simp)]
        simp
      rw [erase_mid I1 I2 y hI1.symm, hk1] at he'
      have ht2 := turn_one (its' := I1 ++ I2) hh hmr hms hmn hsin (σ' := (σ.set c.root ⟨c.its ++ [y] ++ r.its, appK ck rk⟩).set n ⟨I1 ++ I2, some ((A ++ c :: C0).map Tr.root)⟩)
        (by rw [Store.set_same]) (by rw [Store.set_other _ _ hcne, Store.set_same, hmnd, hmk]) (fun x e1 e2 => by rw [Store.set_other _ _ e1, Store.set_other _ _ e2])
      refine ⟨I1 ++ I2, A, m, C0, _, by rw [hmr], he', hb', ht2.1, ht2.2, ?_, ?_, by omega, .inr ⟨by simp; omega, hm31⟩, .inl rfl, ⟨[], y :: r.ents, by rw [hme]; simp, ?_, ?_⟩, fun h => absurd h (by omega)⟩
      · simp at hlen ⊢; omega
      · intro k hk
        simp only [List.mem_append, List.mem_cons] at hk
        rcases hk with hk | rfl | hk
        · exact hok k (by simp [hk])
        · exact hmok
        · exact hok k (by simp [hk])
      · rw [← hI1]; simp
      · rw [← hI1]; simp [post]
  · -- the last child
    have hC : C = [] := by
      cases C with
      | nil => rfl
      | cons r C0 => exact absurd ⟨r, C0, rfl⟩ hright
    subst hC
    have hA : A ≠ [] := by intro h; subst h; rw [List.nil_append, List.length_singleton] at hlen; omega
    obtain ⟨A0, l, rfl⟩ := snoc_of hA
    have hjl : A0.length < its.length := by simp at hlen; omega
    obtain ⟨I1, y, I2, rfl, hI1⟩ := split_at its hjl
    have hI2 : I2 = [] := by
      have : I2.length = 0 := by simp at hlen; omega
      exact List.eq_nil_of_length_eq_zero this
    subst hI2
    have e1 : A0 ++ [l] ++ [c] = A0 ++ l :: c :: [] := by simp
    rw [e1] at hh hlen hok hin hl'
    obtain ⟨hnd, hn1, hn2, hlI, _, hsn⟩ := two_ids hh
    have hlcne : l.root ≠ c.root := ne_of_two hnd
    have hlne : l.root ≠ n := fun e => hn1 (e ▸ l.root_mem)
    have hcne : c.root ≠ n := fun e => hn2 (e ▸ c.root_mem)
    have hkl := kids_get A0 [c] l
    have hkc := kids_get1 A0 [] l c
    have hl15 : l.its.length ≤ 15 := Nat.le_of_not_lt (fun h => hleft ⟨A0, l, rfl, h⟩)
    obtain ⟨m, lk, ck, mk, hcnd, hlnd, hmnd, hmk, hk2, hmr, hms, hmn, hmok, hm31, hme, hsin⟩ := surg_merge l c (hok l (by simp)) hcok hc15 hl15 y
    have HG := grow_last F B tb n A0.length c.root l.root (I1 ++ [y]) c.its l.its _ ck lk σ w hg ht he hsn hl' (by simp; omega) hkl hkc (by rw [hlI.in_root, hlnd]) (by rw [hcn, hcnd]) hlcne hlne hcne (by omega) hk2 y (get_mid I1 [] y hI1.symm) hc15 hl15
    have hll : (A0 ++ [l]).length = A0.length + 1 := by simp
    have ecast : (((A0 ++ [l]).length : Nat) : Int) = (A0.length : Int) + 1 := by rw [hll]; omega
    rw [ecast]
    refine HG.mono ?_
    rintro e w' ⟨rfl, he', hb'⟩
    have hk1 : ((A0 ++ [l, c]).map Tr.root).eraseIdx (A0.length + 1) = (A0 ++ [l]).map Tr.root := by
      have : A0 ++ [l, c] = (A0 ++ [l]) ++ [c] := by simp
      rw [this, List.map_append, List.map_singleton, erase_mid _ _ _ (by simp)]
      simp
    rw [erase_mid I1 [] y hI1.symm, hk1, List.append_nil] at he'
    have ht2 := turn_one (its' := I1) (C := []) hh hmr hms hmn hsin (σ' := (σ.set l.root ⟨l.its ++ [y] ++ c.its, appK lk ck⟩).set n ⟨I1, some ((A0 ++ [l]).map Tr.root)⟩)
      (by rw [Store.set_same]) (by rw [Store.set_other _ _ hlne, Store.set_same, hmnd, hmk]) (fun x e1 e2 => by rw [Store.set_other _ _ e1, Store.set_other _ _ e2])
    refine ⟨I1, A0, m, [], _, by rw [hmr], he', hb', ht2.1, by rw [e1]; exact ht2.2, ?_, ?_, by omega, .inr ⟨by simp, hm31⟩, .inr (by simp), ⟨l.ents ++ [y], [], by rw [hme]; simp, ?_, ?_⟩, fun h => absurd h (by omega)⟩
    · simp at hlen ⊢; omega
    · intro k hk
      simp only [List.mem_append, List.mem_singleton] at hk
      rcases hk with hk | rfl
      · exact hok k (by simp [hk])
      · exact hmok
    · have t1 : (I1 ++ [y]).take (A0 ++ [l]).length = I1 ++ [y] := by rw [hll, ← hI1]; exact take_mid1 _ _ _
      have t2 : I1.take A0.length = I1 := by rw [← hI1]; simp
      rw [t1, t2, List.map_append, List.map_singleton, pre_snoc _ _ _ _ (by simp [hI1])]
      simp
    · have t2 : I1.drop A0.length = [] := by rw [← hI1]; simp
      have t1 : (I1 ++ [y]).drop (A0 ++ [l]).length = [] := by rw [hll, ← hI1]; exact drop_mid1 _ _ _
      rw [t1, t2]
      simp
end Go.Proofs.Qxb6603401a
