import Derived.Test.Qxb6603401aMerge
namespace Go.Proofs.Qxb6603401a
open Go Go.RowKit

/-! ### The trees, by their depth -/
def Tr : Nat → Type
  | 0 => Nat × List It
  | d + 1 => Nat × List It × List (Tr d)

def leaf (b : Nat) (its : List It) : Tr 0 := (b, its)
def node {d : Nat} (b : Nat) (its : List It) (ks : List (Tr d)) : Tr (d + 1) := (b, its, ks)

def Tr.root : {d : Nat} → Tr d → Nat
  | 0, t => t.1
  | _ + 1, t => t.1
def Tr.its : {d : Nat} → Tr d → List It
  | 0, t => t.2
  | _ + 1, t => t.2.1
def Tr.ids : {d : Nat} → Tr d → List Nat
  | 0, t => [t.1]
  | _ + 1, t => t.1 :: t.2.2.flatMap Tr.ids
/-- Items and what stands between them, in order. -/
def inter : List It → List (List It) → List It
  | x :: xs, e :: es => e ++ x :: inter xs es
  | [], e :: _ => e
  | _, [] => []
def Tr.ents : {d : Nat} → Tr d → List It
  | 0, t => t.2
  | _ + 1, t => inter t.2.1 (t.2.2.map Tr.ents)
def Tr.nd : {d : Nat} → Tr d → Nd
  | 0, t => ⟨t.2, none⟩
  | _ + 1, t => ⟨t.2.1, some (t.2.2.map Tr.root)⟩
def Tr.In (σ : Store) : {d : Nat} → Tr d → Prop
  | 0, t => σ t.1 = some ⟨t.2, none⟩
  | _ + 1, t => σ t.1 = some ⟨t.2.1, some (t.2.2.map Tr.root)⟩ ∧ ∀ k ∈ t.2.2, Tr.In σ k
def Tr.Ok (m : Nat) : {d : Nat} → Tr d → Prop
  | 0, t => m ≤ t.2.length ∧ t.2.length ≤ 31
  | _ + 1, t => m ≤ t.2.1.length ∧ t.2.1.length ≤ 31 ∧ t.2.2.length = t.2.1.length + 1 ∧ ∀ k ∈ t.2.2, Tr.Ok 15 k

theorem Tr.In.in_root {σ : Store} : {d : Nat} → {t : Tr d} → t.In σ → σ t.root = some t.nd
  | 0, _, h => h
  | _ + 1, _, h => h.1
theorem Tr.nd_its : {d : Nat} → (t : Tr d) → t.nd.its = t.its
  | 0, _ => rfl
  | _ + 1, _ => rfl
theorem Tr.ok_len {m : Nat} : {d : Nat} → {t : Tr d} → t.Ok m → m ≤ t.its.length ∧ t.its.length ≤ 31
  | 0, _, h => h
  | _ + 1, _, h => ⟨h.1, h.2.1⟩
theorem Tr.ok_mono {m m' : Nat} : {d : Nat} → {t : Tr d} → t.Ok m → m' ≤ t.its.length → t.Ok m'
  | 0, _, h, h' => ⟨h', h.2⟩
  | _ + 1, _, h, h' => ⟨h', h.2⟩
theorem Tr.root_mem : {d : Nat} → (t : Tr d) → t.root ∈ t.ids
  | 0, _ => List.mem_singleton.2 rfl
  | _ + 1, _ => List.mem_cons_self

/-- Another store that has the tree's nodes holds the tree. -/
theorem Tr.In.frame {σ σ' : Store} : {d : Nat} → {t : Tr d} → t.In σ → (∀ b ∈ t.ids, σ' b = σ b) → t.In σ'
  | 0, t, h, he => (he t.1 (List.mem_singleton.2 rfl)).trans h
  | d + 1, t, h, he => by
    have h' : σ t.1 = some ⟨t.2.1, some (t.2.2.map Tr.root)⟩ ∧ ∀ k ∈ t.2.2, Tr.In σ k := h
    show σ' t.1 = some ⟨t.2.1, some (t.2.2.map Tr.root)⟩ ∧ ∀ k ∈ t.2.2, Tr.In σ' k
    exact ⟨(he t.1 List.mem_cons_self).trans h'.1, fun k hk => Tr.In.frame (h'.2 k hk) (fun b hb => he b (List.mem_cons_of_mem _ (List.mem_flatMap.2 ⟨k, hk, hb⟩)))⟩
theorem Tr.In.ne {σ : Store} : {d : Nat} → {t : Tr d} → t.In σ → ∀ b ∈ t.ids, σ b ≠ none
  | 0, t, h, b, hb => by
    rw [List.mem_singleton.1 hb]
    intro h0
    have h' : σ t.1 = some ⟨t.2, none⟩ := h
    rw [h'] at h0; cases h0
  | _ + 1, t, h, b, hb => by
    rcases List.mem_cons.1 hb with rfl | hb
    · intro h0
      have := h.1
      rw [h0] at this; cases this
    · obtain ⟨k, hk, hb⟩ := List.mem_flatMap.1 hb
      exact Tr.In.ne (h.2 k hk) b hb

structure Has (σ : Store) {d : Nat} (t : Tr d) : Prop where
  here : t.In σ
  once : t.ids.Nodup

/-- What a change of a tree leaves alone. -/
structure Upd (σ σ' : Store) (I I' : List Nat) : Prop where
  out : ∀ b, b ∉ I → σ b ≠ none → σ' b = σ b
  ids : ∀ b ∈ I', b ∈ I ∨ σ b = none

theorem Upd.refl (σ : Store) (I : List Nat) : Upd σ σ I I := ⟨fun _ _ _ => rfl, fun _ h => .inl h⟩
theorem Upd.trans {σ σ1 σ2 : Store} {I I1 I2 : List Nat} (h1 : Upd σ σ1 I I1) (h2 : Upd σ1 σ2 I1 I2) : Upd σ σ2 I I2 := by
  refine ⟨fun b hb hs => ?_, fun b hb => ?_⟩
  · have e1 := h1.out b hb hs
    have : b ∉ I1 := fun h => by
      rcases h1.ids b h with h | h
      · exact hb h
      · exact hs h
    rw [h2.out b this (by rw [e1]; exact hs), e1]
  · rcases h2.ids b hb with h | h
    · exact h1.ids b h
    · by_cases hI : b ∈ I
      · exact .inl hI
      · refine .inr ?_
        cases hs : σ b with
        | none => rfl
        | some nd =>
          have e1 := h1.out b hI (by rw [hs]; simp)
          rw [e1, hs] at h
          cases h

/-- SOME CHILDREN ARE REPLACED, and the node's items. -/
theorem regraft {σ σ' : Store} {d : Nat} {b : Nat} {its its' : List It} {A M M' C : List (Tr d)} (h : Has σ (node b its (A ++ M ++ C))) (hb' : σ' b = some ⟨its', some ((A ++ M' ++ C).map Tr.root)⟩) (hM : ∀ k ∈ M', k.In σ') (hMn : (M'.flatMap Tr.ids).Nodup)
    (hnew : ∀ x ∈ M'.flatMap Tr.ids, x ∈ M.flatMap Tr.ids ∨ σ x = none) (hout : ∀ x, x ≠ b → x ∉ M.flatMap Tr.ids → σ x ≠ none → σ' x = σ x) :
    Has σ' (node b its' (A ++ M' ++ C)) ∧ Upd σ σ' (node b its (A ++ M ++ C)).ids (node b its' (A ++ M' ++ C)).ids := by
  have hin : σ b = some ⟨its, some ((A ++ M ++ C).map Tr.root)⟩ ∧ ∀ k ∈ A ++ M ++ C, Tr.In σ k := h.here
  have hnd : (b :: ((A ++ M ++ C).flatMap Tr.ids)).Nodup := h.once
  rw [List.nodup_cons, List.flatMap_append, List.flatMap_append, List.append_assoc, List.nodup_append, List.nodup_append] at hnd
  obtain ⟨hb, hA, ⟨hcn, hC, hcC⟩, hAc⟩ := hnd
  simp only [List.mem_append, not_or] at hb
  have hsb : σ b ≠ none := by rw [hin.1]; simp
  have hkids : ∀ k ∈ A ++ C, ∀ x ∈ k.ids, x ∉ M.flatMap Tr.ids := by
    intro k hk x hx hxc
    rcases List.mem_append.1 hk with hk | hk
    · exact hAc x (List.mem_flatMap.2 ⟨k, hk, hx⟩) x (List.mem_append.2 (.inl hxc)) rfl
    · exact hcC x hxc x (List.mem_flatMap.2 ⟨k, hk, hx⟩) rfl
  have hkb : ∀ k ∈ A ++ C, ∀ x ∈ k.ids, x ≠ b := by
    intro k hk x hx e
    subst e
    rcases List.mem_append.1 hk with hk | hk
    · exact hb.1 (List.mem_flatMap.2 ⟨k, hk, hx⟩)
    · exact hb.2.2 (List.mem_flatMap.2 ⟨k, hk, hx⟩)
  have hold : ∀ k ∈ A ++ C, Tr.In σ k := fun k hk => hin.2 k (by
    rcases List.mem_append.1 hk with hk | hk
    · exact List.mem_append.2 (.inl (List.mem_append.2 (.inl hk)))
    · exact List.mem_append.2 (.inr hk))
  have hkids' : ∀ k ∈ A ++ C, Tr.In σ' k := fun k hk => (hold k hk).frame (fun x hx => hout x (hkb k hk x hx) (hkids k hk x hx) ((hold k hk).ne x hx))
  have hfar : ∀ k ∈ A ++ C, ∀ x ∈ k.ids, x ∉ M'.flatMap Tr.ids := by
    intro k hk x hx hxc
    rcases hnew x hxc with h1 | h1
    · exact hkids k hk x hx h1
    · exact (hold k hk).ne x hx h1
  have hbM : b ∉ M'.flatMap Tr.ids := by
    intro hbc
    rcases hnew b hbc with h1 | h1
    · exact hb.2.1 h1
    · exact hsb h1
  refine ⟨⟨⟨hb', ?_⟩, ?_⟩, ⟨?_, ?_⟩⟩
  · intro k hk
    rcases List.mem_append.1 hk with hk | hk
    · rcases List.mem_append.1 hk with hk | hk
      · exact hkids' k (List.mem_append.2 (.inl hk))
      · exact hM k hk
    · exact hkids' k (List.mem_append.2 (.inr hk))
  · show (b :: ((A ++ M' ++ C).flatMap Tr.ids)).Nodup
    rw [List.nodup_cons, List.flatMap_append, List.flatMap_append, List.append_assoc, List.nodup_append, List.nodup_append]
    refine ⟨?_, hA, ⟨hMn, hC, ?_⟩, ?_⟩
    · simp only [List.mem_append, not_or]
      exact ⟨hb.1, hbM, hb.2.2⟩
    · intro x hx y hy e
      subst e
      obtain ⟨k, hk, hy⟩ := List.mem_flatMap.1 hy
      exact hfar k (List.mem_append.2 (.inr hk)) x hy hx
    · intro x hx y hy e
      subst e
      rcases List.mem_append.1 hy with hy | hy
      · obtain ⟨k, hk, hx⟩ := List.mem_flatMap.1 hx
        exact hfar k (List.mem_append.2 (.inl hk)) x hx hy
      · exact hAc x hx x (List.mem_append.2 (.inr hy)) rfl
  · intro x hx hs
    have hx' : x ∉ b :: ((A ++ M ++ C).flatMap Tr.ids) := hx
    rw [List.mem_cons, not_or, List.flatMap_append, List.flatMap_append, List.mem_append, not_or, List.mem_append, not_or] at hx'
    exact hout x hx'.1 hx'.2.1.2 hs
  · intro x hx
    have hx' : x ∈ b :: ((A ++ M' ++ C).flatMap Tr.ids) := hx
    show x ∈ b :: ((A ++ M ++ C).flatMap Tr.ids) ∨ _
    rw [List.mem_cons, List.flatMap_append, List.flatMap_append, List.mem_append, List.mem_append] at hx' ⊢
    rcases hx' with h1 | (h1 | h1) | h1
    · exact .inl (.inl h1)
    · exact .inl (.inr (.inl (.inl h1)))
    · rcases hnew x h1 with h2 | h2
      · exact .inl (.inr (.inl (.inr h2)))
      · exact .inr h2
    · exact .inl (.inr (.inr h1))

theorem mid_one {d : Nat} (A C : List (Tr d)) (c : Tr d) : A ++ c :: C = A ++ [c] ++ C := by simp

/-- ONE CHILD IS REPLACED, the node stands. -/
theorem plug {σ σ' : Store} {d : Nat} {b : Nat} {its : List It} {A C : List (Tr d)} {c c' : Tr d} (h : Has σ (node b its (A ++ c :: C))) (hu : Upd σ σ' c.ids c'.ids) (hc : Has σ' c') (hr : c'.root = c.root) :
    Has σ' (node b its (A ++ c' :: C)) ∧ Upd σ σ' (node b its (A ++ c :: C)).ids (node b its (A ++ c' :: C)).ids := by
  have hin : σ b = some ⟨its, some ((A ++ c :: C).map Tr.root)⟩ ∧ ∀ k ∈ A ++ c :: C, Tr.In σ k := h.here
  have hnd : (b :: ((A ++ c :: C).flatMap Tr.ids)).Nodup := h.once
  have hbc : b ∉ c.ids := fun hb => (List.nodup_cons.1 hnd).1 (List.mem_flatMap.2 ⟨c, by simp, hb⟩)
  have hsb : σ' b = σ b := hu.out b hbc (by rw [hin.1]; simp)
  rw [mid_one] at h
  rw [mid_one A C c, mid_one A C c']
  refine regraft h ?_ ?_ ?_ ?_ ?_
  · rw [hsb, hin.1]; simp [hr]
  · intro k hk; rw [List.mem_singleton.1 hk]; exact hc.here
  · simpa using hc.once
  · intro x hx; simpa using hu.ids x (by simpa using hx)
  · intro x _ hx hs; exact hu.out x (by simpa using hx) hs

/-! ### What a tree holds, ahead of a child and behind it -/
def pre : List It → List (List It) → List It
  | x :: xs, e :: es => e ++ x :: pre xs es
  | _, _ => []
def post : List It → List (List It) → List It
  | x :: xs, e :: es => x :: e ++ post xs es
  | _, _ => []

theorem inter_split : ∀ (I1 I2 : List It) (EA : List (List It)) (e : List It) (EC : List (List It)), EA.length = I1.length → EC.length = I2.length → inter (I1 ++ I2) (EA ++ e :: EC) = pre I1 EA ++ e ++ post I2 EC
  | [], I2, [], e, EC, _, h2 => by
    induction I2 generalizing e EC with
    | nil =>
      obtain rfl : EC = [] := List.eq_nil_of_length_eq_zero (by simpa using h2)
      simp [inter, pre, post]
    | cons x xs ih =>
      cases EC with
      | nil => simp at h2
      | cons e' EC =>
        have := ih e' EC (by simpa using h2)
        simp only [List.nil_append, pre] at this ⊢
        simp [inter, post, this]
  | x :: xs, I2, [], e, EC, h1, _ => by simp at h1
  | [], I2, a :: EA, e, EC, h1, _ => by simp at h1
  | x :: xs, I2, a :: EA, e, EC, h1, h2 => by
    have := inter_split xs I2 EA e EC (by simpa using h1) h2
    simp [inter, pre, this]

theorem pre_snoc : ∀ (I : List It) (E : List (List It)) (x : It) (e : List It), E.length = I.length → pre (I ++ [x]) (E ++ [e]) = pre I E ++ e ++ [x]
  | [], [], x, e, _ => by simp [pre]
  | [], _ :: _, _, _, h => by simp at h
  | _ :: _, [], _, _, h => by simp at h
  | y :: I, f :: E, x, e, h => by
    have := pre_snoc I E x e (by simpa using h)
    simp [pre, this]

/-- Around child i. -/
theorem ents_at {d : Nat} (b : Nat) (I1 I2 : List It) (A C : List (Tr d)) (c : Tr d) (h1 : A.length = I1.length) (h2 : C.length = I2.length) :
    (node b (I1 ++ I2) (A ++ c :: C)).ents = pre I1 (A.map Tr.ents) ++ c.ents ++ post I2 (C.map Tr.ents) := by
  show inter (I1 ++ I2) ((A ++ c :: C).map Tr.ents) = _
  rw [List.map_append, List.map_cons]
  exact inter_split _ _ _ _ _ (by simpa using h1) (by simpa using h2)
/-- Around item i. -/
theorem ents_at2 {d : Nat} (b : Nat) (I1 I2 : List It) (x : It) (A C : List (Tr d)) (c r : Tr d) (h1 : A.length = I1.length) (h2 : C.length = I2.length) :
    (node b (I1 ++ x :: I2) (A ++ c :: r :: C)).ents = pre I1 (A.map Tr.ents) ++ c.ents ++ x :: r.ents ++ post I2 (C.map Tr.ents) := by
  rw [ents_at b I1 (x :: I2) A (r :: C) c h1 (by simp [h2])]
  simp [post]

theorem inter_join : ∀ (I J : List It) (y : It) (E G : List (List It)), E.length = I.length + 1 → inter (I ++ y :: J) (E ++ G) = inter I E ++ y :: inter J G
  | [], J, y, [e], G, _ => by simp [inter]
  | [], _, _, [], _, h => by simp at h
  | [], _, _, _ :: _ :: _, _, h => by simp at h
  | x :: I, J, y, e :: E, G, h => by
    have := inter_join I J y E G (by simpa using h)
    simp [inter, this]
  | _ :: _, _, _, [], _, h => by simp at h

theorem snoc_of {α : Type} {l : List α} (h : l ≠ []) : ∃ a x, l = a ++ [x] := ⟨l.dropLast, l.getLast h, (List.dropLast_concat_getLast h).symm⟩
theorem cons_of {α : Type} {l : List α} (h : l ≠ []) : ∃ x a, l = x :: a := by
  cases l with
  | nil => exact absurd rfl h
  | cons x a => exact ⟨x, a, rfl⟩

/-- Kids that have turned nowhere. -/
theorem in_all {σ σ' : Store} {d : Nat} {ks : List (Tr d)} (h : ∀ k ∈ ks, k.In σ) (he : ∀ x ∈ ks.flatMap Tr.ids, σ' x = σ x) : ∀ k ∈ ks, k.In σ' :=
  fun k hk => (h k hk).frame (fun x hx => he x (List.mem_flatMap.2 ⟨k, hk, hx⟩))

/-- AN ITEM GOES FROM THE LEFT NEIGHBOUR. -/
theorem surg_left : {d : Nat} → (l c : Tr d) → l.Ok 15 → c.Ok 15 → 15 < l.its.length → c.its.length ≤ 15 → (y : It) →
    ∃ (l' c' : Tr d) (z : It) (li X : List It) (lk ck lk' ck' : Option (List Nat)),
      l.nd = ⟨li ++ [z], lk⟩ ∧ c.nd = ⟨c.its, ck⟩ ∧ l'.nd = ⟨li, lk'⟩ ∧ c'.nd = ⟨y :: c.its, ck'⟩ ∧
      ((lk = none ∧ ck = none ∧ lk' = none ∧ ck' = none) ∨ ∃ a b q, lk = some (a ++ [q]) ∧ ck = some b ∧ lk' = some a ∧ ck' = some (q :: b) ∧ a.length = li.length + 1 ∧ b.length < 32) ∧
      l'.root = l.root ∧ c'.root = c.root ∧ (l'.ids ++ c'.ids).Perm (l.ids ++ c.ids) ∧ l'.Ok 15 ∧ c'.Ok 15 ∧ 16 ≤ c'.its.length ∧ c'.ents = X ++ c.ents ∧ l.ents ++ [y] = l'.ents ++ [z] ++ X ∧ 15 ≤ li.length ∧
      (∀ σ σ' : Store, l.In σ → c.In σ → (l.ids ++ c.ids).Nodup → σ' l.root = some l'.nd → σ' c.root = some c'.nd → (∀ x ∈ l.ids ++ c.ids, x ≠ l.root → x ≠ c.root → σ' x = σ x) → l'.In σ' ∧ c'.In σ')
  | 0, (lb, li0), (cb, ci), hl, hc, h1, h2, y => by
    have h1' : 15 < li0.length := h1
    have h2' : ci.length ≤ 15 := h2
    obtain ⟨li, z, rfl⟩ := snoc_of (l := li0) (by intro h; rw [h] at h1'; simp at h1')
    simp at h1'
    have hl' : (li ++ [z]).length ≤ 31 := hl.2
    simp at hl'
    have hc' : 15 ≤ ci.length := hc.1
    refine ⟨leaf lb li, leaf cb (y :: ci), z, li, [y], none, none, none, none, rfl, rfl, rfl, rfl, .inl ⟨rfl, rfl, rfl, rfl⟩, rfl, rfl, .refl _, ⟨?_, ?_⟩, ⟨?_, ?_⟩, ?_, rfl, rfl, by omega, ?_⟩
    · show 15 ≤ li.length; omega
    · show li.length ≤ 31; omega
    · show 15 ≤ (y :: ci).length; simp; omega
    · show (y :: ci).length ≤ 31; simp; omega
    · show 16 ≤ (y :: ci).length; simp; omega
    · intro σ σ' _ _ _ h1 h2 _
      exact ⟨h1, h2⟩
  | d + 1, (lb, li0, lk0), (cb, ci, ck), hl, hc, h1, h2, y => by
    have h1' : 15 < li0.length := h1
    have h2' : ci.length ≤ 15 := h2
    obtain ⟨hl1, hl2, hl3, hl4⟩ := hl
    obtain ⟨hc1, hc2, hc3, hc4⟩ := hc
    simp only at hl1 hl2 hl3 hl4 hc1 hc2 hc3 hc4
    obtain ⟨li, z, rfl⟩ := snoc_of (l := li0) (by intro h; rw [h] at h1'; simp at h1')
    obtain ⟨lk, q, rfl⟩ := snoc_of (l := lk0) (by intro h; rw [h] at hl3; simp at hl3)
    simp at h1' hl2 hl3 hl1
    have hEl : (node lb (li ++ [z]) (lk ++ [q])).ents = (node lb li lk).ents ++ z :: q.ents := by
      show inter (li ++ [z]) ((lk ++ [q]).map Tr.ents) = inter li (lk.map Tr.ents) ++ _
      rw [List.map_append, inter_join li [] z _ _ (by simp; omega)]
      rfl
    refine ⟨node lb li lk, node cb (y :: ci) (q :: ck), z, li, q.ents ++ [y], some ((lk ++ [q]).map Tr.root), some (ck.map Tr.root), some (lk.map Tr.root), some ((q :: ck).map Tr.root), rfl, rfl, rfl, rfl,
      .inr ⟨lk.map Tr.root, ck.map Tr.root, q.root, by simp, rfl, rfl, rfl, by simp; omega, by simp; omega⟩, rfl, rfl, ?_, ⟨?_, ?_, ?_, ?_⟩, ⟨?_, ?_, ?_, ?_⟩, ?_, ?_, ?_, by omega, ?_⟩
    · show ((lb :: lk.flatMap Tr.ids) ++ (cb :: (q :: ck).flatMap Tr.ids)).Perm ((lb :: (lk ++ [q]).flatMap Tr.ids) ++ (cb :: ck.flatMap Tr.ids))
      simp only [List.flatMap_cons, List.flatMap_append, List.flatMap_nil, List.append_nil, List.cons_append, List.append_assoc]
      refine List.Perm.cons _ (List.Perm.append_left _ ?_)
      exact (List.perm_middle (l₁ := q.ids) (l₂ := ck.flatMap Tr.ids) (a := cb)).symm
    · show 15 ≤ li.length; omega
    · show li.length ≤ 31; omega
    · show lk.length = li.length + 1; omega
    · intro k hk; exact hl4 k (List.mem_append.2 (.inl hk))
    · show 15 ≤ (y :: ci).length; simp; omega
    · show (y :: ci).length ≤ 31; simp; omega
    · show (q :: ck).length = (y :: ci).length + 1; simp; omega
    · intro k hk
      rcases List.mem_cons.1 hk with rfl | hk
      · exact hl4 _ (by simp)
      · exact hc4 k hk
    · show 16 ≤ (y :: ci).length; simp; omega
    · show inter (y :: ci) ((q :: ck).map Tr.ents) = (q.ents ++ [y]) ++ inter ci (ck.map Tr.ents)
      simp [inter]
    · show (node lb (li ++ [z]) (lk ++ [q])).ents ++ [y] = _
      rw [hEl]; simp
    · intro σ σ' hlI hcI hnd h1 h2 hag
      have hlI' : ∀ k ∈ lk ++ [q], k.In σ := hlI.2
      have hcI' : ∀ k ∈ ck, k.In σ := hcI.2
      have hnd' : ((lb :: (lk ++ [q]).flatMap Tr.ids) ++ (cb :: ck.flatMap Tr.ids)).Nodup := hnd
      rw [List.nodup_append, List.nodup_cons, List.nodup_cons] at hnd'
      obtain ⟨⟨n1, n2⟩, ⟨n3, n4⟩, n5⟩ := hnd'
      have hA : ∀ x ∈ (lk ++ [q]).flatMap Tr.ids, σ' x = σ x := fun x hx => hag x (List.mem_append.2 (.inl (List.mem_cons_of_mem _ hx))) (fun e => n1 (by rw [show lb = x from e.symm]; exact hx)) (fun e => n5 x (List.mem_cons_of_mem _ hx) cb List.mem_cons_self e)
      have hB : ∀ x ∈ ck.flatMap Tr.ids, σ' x = σ x := fun x hx => hag x (List.mem_append.2 (.inr (List.mem_cons_of_mem _ hx))) (fun e => n5 lb List.mem_cons_self x (List.mem_cons_of_mem _ hx) e.symm) (fun e => n3 (by rw [show cb = x from e.symm]; exact hx))
      have a1 := in_all hlI' hA
      have a2 := in_all hcI' hB
      refine ⟨⟨h1, fun k hk => a1 k (List.mem_append.2 (.inl hk))⟩, ⟨h2, fun k hk => ?_⟩⟩
      rcases List.mem_cons.1 hk with rfl | hk
      · exact a1 _ (by simp)
      · exact a2 k hk

/-- AN ITEM GOES FROM THE RIGHT NEIGHBOUR. -/
theorem surg_right : {d : Nat} → (c r : Tr d) → c.Ok 15 → r.Ok 15 → 15 < r.its.length → c.its.length ≤ 15 → (y : It) →
    ∃ (c' r' : Tr d) (z : It) (ri Y : List It) (ck rk ck' rk' : Option (List Nat)),
      r.nd = ⟨z :: ri, rk⟩ ∧ c.nd = ⟨c.its, ck⟩ ∧ r'.nd = ⟨ri, rk'⟩ ∧ c'.nd = ⟨c.its ++ [y], ck'⟩ ∧
      ((ck = none ∧ rk = none ∧ ck' = none ∧ rk' = none) ∨ ∃ a b q, rk = some (q :: a) ∧ ck = some b ∧ rk' = some a ∧ ck' = some (b ++ [q]) ∧ b.length < 32) ∧
      r'.root = r.root ∧ c'.root = c.root ∧ (c'.ids ++ r'.ids).Perm (c.ids ++ r.ids) ∧ r'.Ok 15 ∧ c'.Ok 15 ∧ 16 ≤ c'.its.length ∧ c'.ents = c.ents ++ Y ∧ y :: r.ents = Y ++ z :: r'.ents ∧ 15 ≤ ri.length ∧
      (∀ σ σ' : Store, c.In σ → r.In σ → (c.ids ++ r.ids).Nodup → σ' c.root = some c'.nd → σ' r.root = some r'.nd → (∀ x ∈ c.ids ++ r.ids, x ≠ c.root → x ≠ r.root → σ' x = σ x) → c'.In σ' ∧ r'.In σ')
  | 0, (cb, ci), (rb, ri0), hc, hr, h1, h2, y => by
    have h1' : 15 < ri0.length := h1
    have h2' : ci.length ≤ 15 := h2
    obtain ⟨z, ri, rfl⟩ := cons_of (l := ri0) (by intro h; rw [h] at h1'; simp at h1')
    simp at h1'
    have hr' : (z :: ri).length ≤ 31 := hr.2
    simp at hr'
    have hc' : 15 ≤ ci.length := hc.1
    refine ⟨leaf cb (ci ++ [y]), leaf rb ri, z, ri, [y], none, none, none, none, rfl, rfl, rfl, rfl, .inl ⟨rfl, rfl, rfl, rfl⟩, rfl, rfl, .refl _, ⟨?_, ?_⟩, ⟨?_, ?_⟩, ?_, rfl, rfl, by omega, ?_⟩
    · show 15 ≤ ri.length; omega
    · show ri.length ≤ 31; omega
    · show 15 ≤ (ci ++ [y]).length; simp; omega
    · show (ci ++ [y]).length ≤ 31; simp; omega
    · show 16 ≤ (ci ++ [y]).length; simp; omega
    · intro σ σ' _ _ _ h1 h2 _
      exact ⟨h1, h2⟩
  | d + 1, (cb, ci, ck), (rb, ri0, rk0), hc, hr, h1, h2, y => by
    have h1' : 15 < ri0.length := h1
    have h2' : ci.length ≤ 15 := h2
    obtain ⟨hr1, hr2, hr3, hr4⟩ := hr
    obtain ⟨hc1, hc2, hc3, hc4⟩ := hc
    simp only at hr1 hr2 hr3 hr4 hc1 hc2 hc3 hc4
    obtain ⟨z, ri, rfl⟩ := cons_of (l := ri0) (by intro h; rw [h] at h1'; simp at h1')
    obtain ⟨q, rk, rfl⟩ := cons_of (l := rk0) (by intro h; rw [h] at hr3; simp at hr3)
    simp at h1' hr2 hr3 hr1
    have hEc : (node cb (ci ++ [y]) (ck ++ [q])).ents = (node cb ci ck).ents ++ y :: q.ents := by
      show inter (ci ++ [y]) ((ck ++ [q]).map Tr.ents) = inter ci (ck.map Tr.ents) ++ _
      rw [List.map_append, inter_join ci [] y _ _ (by simp; omega)]
      rfl
    refine ⟨node cb (ci ++ [y]) (ck ++ [q]), node rb ri rk, z, ri, y :: q.ents, some (ck.map Tr.root), some ((q :: rk).map Tr.root), some ((ck ++ [q]).map Tr.root), some (rk.map Tr.root), rfl, rfl, rfl, rfl,
      .inr ⟨rk.map Tr.root, ck.map Tr.root, q.root, rfl, rfl, rfl, by simp, by simp; omega⟩, rfl, rfl, ?_, ⟨?_, ?_, ?_, ?_⟩, ⟨?_, ?_, ?_, ?_⟩, ?_, hEc, ?_, by omega, ?_⟩
    · show ((cb :: (ck ++ [q]).flatMap Tr.ids) ++ (rb :: rk.flatMap Tr.ids)).Perm ((cb :: ck.flatMap Tr.ids) ++ (rb :: (q :: rk).flatMap Tr.ids))
      simp only [List.flatMap_cons, List.flatMap_append, List.flatMap_nil, List.append_nil, List.cons_append, List.append_assoc]
      refine List.Perm.cons _ (List.Perm.append_left _ ?_)
      exact (List.perm_middle (l₁ := q.ids) (l₂ := rk.flatMap Tr.ids) (a := rb))
    · show 15 ≤ ri.length; omega
    · show ri.length ≤ 31; omega
    · show rk.length = ri.length + 1; omega
    · intro k hk; exact hr4 k (List.mem_cons_of_mem _ hk)
    · show 15 ≤ (ci ++ [y]).length; simp; omega
    · show (ci ++ [y]).length ≤ 31; simp; omega
    · show (ck ++ [q]).length = (ci ++ [y]).length + 1; simp; omega
    · intro k hk
      rcases List.mem_append.1 hk with hk | hk
      · exact hc4 k hk
      · rw [List.mem_singleton.1 hk]; exact hr4 _ List.mem_cons_self
    · show 16 ≤ (ci ++ [y]).length; simp; omega
    · show y :: inter (z :: ri) ((q :: rk).map Tr.ents) = (y :: q.ents) ++ z :: inter ri (rk.map Tr.ents)
      simp [inter]
    · intro σ σ' hcI hrI hnd h1 h2 hag
      have hrI' : ∀ k ∈ q :: rk, k.In σ := hrI.2
      have hcI' : ∀ k ∈ ck, k.In σ := hcI.2
      have hnd' : ((cb :: ck.flatMap Tr.ids) ++ (rb :: (q :: rk).flatMap Tr.ids)).Nodup := hnd
      rw [List.nodup_append, List.nodup_cons, List.nodup_cons] at hnd'
      obtain ⟨⟨n1, n2⟩, ⟨n3, n4⟩, n5⟩ := hnd'
      have hA : ∀ x ∈ ck.flatMap Tr.ids, σ' x = σ x := fun x hx => hag x (List.mem_append.2 (.inl (List.mem_cons_of_mem _ hx))) (fun e => n1 (by rw [show cb = x from e.symm]; exact hx)) (fun e => n5 x (List.mem_cons_of_mem _ hx) rb List.mem_cons_self e)
      have hB : ∀ x ∈ (q :: rk).flatMap Tr.ids, σ' x = σ x := fun x hx => hag x (List.mem_append.2 (.inr (List.mem_cons_of_mem _ hx))) (fun e => n5 cb List.mem_cons_self x (List.mem_cons_of_mem _ hx) e.symm) (fun e => n3 (by rw [show rb = x from e.symm]; exact hx))
      have a1 := in_all hcI' hA
      have a2 := in_all hrI' hB
      refine ⟨⟨h1, fun k hk => ?_⟩, ⟨h2, fun k hk => a2 k (List.mem_cons_of_mem _ hk)⟩⟩
      rcases List.mem_append.1 hk with hk | hk
      · exact a1 k hk
      · rw [List.mem_singleton.1 hk]; exact a2 _ List.mem_cons_self

/-- TWO CHILDREN BECOME ONE. -/
theorem surg_merge : {d : Nat} → (c r : Tr d) → c.Ok 15 → r.Ok 15 → r.its.length ≤ 15 → c.its.length ≤ 15 → (y : It) →
    ∃ (m : Tr d) (ck rk mk : Option (List Nat)),
      r.nd = ⟨r.its, rk⟩ ∧ c.nd = ⟨c.its, ck⟩ ∧ m.nd = ⟨c.its ++ [y] ++ r.its, mk⟩ ∧ mk = appK ck rk ∧
      ((ck = none ∧ rk = none) ∨ ∃ a b, ck = some a ∧ rk = some b ∧ a.length + b.length ≤ 32) ∧
      m.root = c.root ∧ (∀ x ∈ m.ids, x ∈ c.ids ++ r.ids) ∧ ((c.ids ++ r.ids).Nodup → m.ids.Nodup) ∧ m.Ok 15 ∧ m.its.length = 31 ∧ m.ents = c.ents ++ y :: r.ents ∧
      (∀ σ σ' : Store, c.In σ → r.In σ → (c.ids ++ r.ids).Nodup → σ' c.root = some m.nd → (∀ x ∈ c.ids ++ r.ids, x ≠ c.root → σ' x = σ x) → m.In σ')
  | 0, (cb, ci), (rb, ri), hc, hr, h1, h2, y => by
    have h1' : ri.length ≤ 15 := h1
    have h2' : ci.length ≤ 15 := h2
    have hr' : 15 ≤ ri.length := hr.1
    have hc' : 15 ≤ ci.length := hc.1
    refine ⟨leaf cb (ci ++ [y] ++ ri), none, none, none, rfl, rfl, rfl, rfl, .inl ⟨rfl, rfl⟩, rfl, ?_, ?_, ⟨?_, ?_⟩, ?_, ?_, ?_⟩
    · intro x hx
      have : x = cb := List.mem_singleton.1 hx
      subst this
      exact List.mem_append.2 (.inl (List.mem_singleton.2 rfl))
    · intro _; show [cb].Nodup; simp
    · show 15 ≤ (ci ++ [y] ++ ri).length; simp; omega
    · show (ci ++ [y] ++ ri).length ≤ 31; simp; omega
    · show (ci ++ [y] ++ ri).length = 31; simp; omega
    · show ci ++ [y] ++ ri = ci ++ y :: ri; simp
    · intro σ σ' _ _ _ h1 _
      exact h1
  | d + 1, (cb, ci, ck), (rb, ri, rk), hc, hr, h1, h2, y => by
    have h1' : ri.length ≤ 15 := h1
    have h2' : ci.length ≤ 15 := h2
    obtain ⟨hr1, hr2, hr3, hr4⟩ := hr
    obtain ⟨hc1, hc2, hc3, hc4⟩ := hc
    simp only at hr1 hr2 hr3 hr4 hc1 hc2 hc3 hc4
    refine ⟨node cb (ci ++ [y] ++ ri) (ck ++ rk), some (ck.map Tr.root), some (rk.map Tr.root), some ((ck ++ rk).map Tr.root), rfl, rfl, rfl, by simp [appK],
      .inr ⟨ck.map Tr.root, rk.map Tr.root, rfl, rfl, by simp; omega⟩, rfl, ?_, ?_, ⟨?_, ?_, ?_, ?_⟩, ?_, ?_, ?_⟩
    · intro x hx
      have hx' : x ∈ cb :: (ck ++ rk).flatMap Tr.ids := hx
      show x ∈ (cb :: ck.flatMap Tr.ids) ++ (rb :: rk.flatMap Tr.ids)
      rw [List.flatMap_append] at hx'
      simp only [List.mem_cons, List.mem_append] at hx' ⊢
      rcases hx' with h | h | h
      · exact .inl (.inl h)
      · exact .inl (.inr h)
      · exact .inr (.inr h)
    · intro hnd
      have hnd' : ((cb :: ck.flatMap Tr.ids) ++ (rb :: rk.flatMap Tr.ids)).Nodup := hnd
      show (cb :: (ck ++ rk).flatMap Tr.ids).Nodup
      rw [List.flatMap_append, ← List.cons_append]
      exact hnd'.sublist (List.Sublist.append_left (List.sublist_cons_self _ _) _)
    · show 15 ≤ (ci ++ [y] ++ ri).length; simp; omega
    · show (ci ++ [y] ++ ri).length ≤ 31; simp; omega
    · show (ck ++ rk).length = (ci ++ [y] ++ ri).length + 1; simp; omega
    · intro k hk
      rcases List.mem_append.1 hk with hk | hk
      · exact hc4 k hk
      · exact hr4 k hk
    · show (ci ++ [y] ++ ri).length = 31; simp; omega
    · show inter (ci ++ [y] ++ ri) ((ck ++ rk).map Tr.ents) = inter ci (ck.map Tr.ents) ++ y :: inter ri (rk.map Tr.ents)
      rw [List.map_append, List.append_assoc, List.singleton_append, inter_join ci ri y _ _ (by simp; omega)]
    · intro σ σ' hcI hrI hnd h1 hag
      have hrI' : ∀ k ∈ rk, k.In σ := hrI.2
      have hcI' : ∀ k ∈ ck, k.In σ := hcI.2
      have hnd' : ((cb :: ck.flatMap Tr.ids) ++ (rb :: rk.flatMap Tr.ids)).Nodup := hnd
      rw [List.nodup_append, List.nodup_cons, List.nodup_cons] at hnd'
      obtain ⟨⟨n1, n2⟩, ⟨n3, n4⟩, n5⟩ := hnd'
      have hA : ∀ x ∈ ck.flatMap Tr.ids, σ' x = σ x := fun x hx => hag x (List.mem_append.2 (.inl (List.mem_cons_of_mem _ hx))) (fun e => n1 (by rw [show cb = x from e.symm]; exact hx))
      have hB : ∀ x ∈ rk.flatMap Tr.ids, σ' x = σ x := fun x hx => hag x (List.mem_append.2 (.inr (List.mem_cons_of_mem _ hx))) (fun e => n5 cb List.mem_cons_self x (List.mem_cons_of_mem _ hx) e.symm)
      have a1 := in_all hcI' hA
      have a2 := in_all hrI' hB
      refine ⟨h1, fun k hk => ?_⟩
      rcases List.mem_append.1 hk with hk | hk
      · exact a1 k hk
      · exact a2 k hk
end Go.Proofs.Qxb6603401a
