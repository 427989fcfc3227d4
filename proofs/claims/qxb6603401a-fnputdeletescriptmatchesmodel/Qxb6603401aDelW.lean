import Derived.Test.Qxb6603401aRem
namespace Go.Proofs.Qxb6603401a
open Go Go.RowKit

theorem delL_mid {k : ByteArray} {L E R : List It} (hL : ∀ e ∈ L, kc e.key k < 0) (hR : ∀ e ∈ R, kc k e.key < 0) : delL k (L ++ E ++ R) = L ++ delL k E ++ R := by
  rw [delL_append, delL_append, delL_none (fun e he h => by have := hL e he; rw [h, kc_refl] at this; omega), delL_none (L := R) (fun e he h => by have := hR e he; rw [h, kc_refl] at this; omega)]
theorem delL_here {L R : List It} {y : It} (hs : Sorted (L ++ y :: R)) : delL y.key (L ++ y :: R) = L ++ R := by
  have h1 : ∀ e ∈ L, kc e.key y.key < 0 := fun e he => hs.cross he List.mem_cons_self
  have h2 : ∀ e ∈ R, kc y.key e.key < 0 := fun e he => (List.pairwise_cons.1 hs.right).1 e he
  have e1 : L ++ y :: R = L ++ [y] ++ R := by simp
  rw [e1, delL_mid h1 h2, delL_one rfl]
  simp
theorem sizeL_del {es : List It} (hs : Sorted es) {y : It} (hy : y ∈ es) : sizeL (delL y.key es) + (y.key.size + y.vn) = sizeL es := by
  obtain ⟨L, R, rfl⟩ := List.append_of_mem hy
  rw [delL_here hs, sizeL_append, sizeL_append, sizeL_cons]
  omega
theorem look_some {key : ByteArray} {es : List It} {y : It} (h : look key es = some y) : y ∈ es ∧ y.key = key := by
  unfold look at h
  exact ⟨List.mem_of_find?_eq_some h, by simpa using List.find?_some h⟩
theorem look_absent {key : ByteArray} {es : List It} (h : look key es = none) : ∀ e ∈ es, e.key ≠ key := by
  unfold look at h
  rw [List.find?_eq_none] at h
  intro e he; simpa using h e he

/-- DOWN TO THE GROWN CHILD: Delete. -/
theorem del_down {key : ByteArray} {dd r2 m0 : Nat} {es : List It} {d m : Nat} {σ σ' : Store} {n : Nat} {its : List It} {A : List (Tr d)} {c : Tr d} {C : List (Tr d)} {its' : List It} {A' : List (Tr d)} {c' : Tr d} {C' : List (Tr d)}
    (h : Wand (delL key) dd r2 m0 0 es m σ (node n its (A ++ c :: C))) (hg : Grown σ σ' n its A c C its' A' c' C') (hok : (node n its (A ++ c :: C)).Ok m) (hm : m + 1 ≤ its.length) (hs : Sorted (node n its (A ++ c :: C)).ents)
    (hlo : ∀ e ∈ its.take A.length, kc e.key key < 0) (hhi : ∀ e ∈ its.drop A.length, kc key e.key < 0) (hk : ∃ e ∈ (node n its (A ++ c :: C)).ents, e.key = key) :
    Has σ' c' ∧ c'.Ok 15 ∧ 16 ≤ c'.its.length ∧ Sorted c'.ents ∧ (∃ e ∈ c'.ents, e.key = key) ∧ Wand (delL key) dd r2 m0 0 es 15 σ' c' := by
  have hl : (A ++ c :: C).length = its.length + 1 := hok.2.2.1
  have hold := hg.ents_old hl
  obtain ⟨X, Y, h1, h2, h3⟩ := hg.holds
  have hA : A.length ≤ its.length := by simp at hl; omega
  have hC : C.length = its.length - A.length := by simp at hl; omega
  have he0 := ents_at n (its.take A.length) (its.drop A.length) A C c (by rw [List.length_take]; omega) (by rw [List.length_drop]; omega)
  rw [List.take_append_drop] at he0
  have hs0 := hs
  rw [he0] at hs0
  have hL := pre_lt _ _ hs0.left.left hlo
  have hR := post_gt _ _ hs0.right hhi
  have hL' : ∀ e ∈ pre (its'.take A'.length) (A'.map Tr.ents), kc e.key key < 0 := fun e he => hL e (by rw [h2]; exact List.mem_append.2 (.inl he))
  have hR' : ∀ e ∈ post (its'.drop A'.length) (C'.map Tr.ents), kc key e.key < 0 := fun e he => hR e (by rw [h3]; exact List.mem_append.2 (.inr he))
  have hs1 := hs
  rw [hold] at hs1
  refine ⟨hg.has.child (by simp), hg.ok c' (by simp), hg.full, hs1.left.right, ?_, ?_⟩
  · obtain ⟨e, he, hek⟩ := hk
    rw [hold] at he
    rcases List.mem_append.1 he with he | he
    · rcases List.mem_append.1 he with he | he
      · have := hL' e he
        rw [hek, kc_refl] at this; omega
      · exact ⟨e, he, hek⟩
    · have := hR' e he
      rw [hek, kc_refl] at this; omega
  · have h31 : its.length ≤ 31 := hok.2.1
    exact (h.pass (t' := node n its' (A' ++ c' :: C')) hg.upd rfl (hg.ents hl)).down hg.has (hg.okAt hm h31 (hg.ok c' (by simp))) (Nat.zero_le _) (delL_mid hL' hR')

/-- 'merge' on trees. -/
theorem merge_tree {d : Nat} (F : Keep) (B tb n : Nat) (I1 I2 : List It) (y : It) (A : List (Tr d)) (c r : Tr d) (C : List (Tr d)) (σ : Store) (w : World) (hg : Gen tb w) (ht : tb < B) (he : Env F B σ w) (hh : Has σ (node n (I1 ++ y :: I2) (A ++ c :: r :: C)))
    (hI : I1.length = A.length) (hlen : (A ++ c :: r :: C).length = (I1 ++ y :: I2).length + 1) (hok : ∀ k ∈ A ++ c :: r :: C, k.Ok 15) (hc15 : c.its.length ≤ 15) (hr15 : r.its.length ≤ 15) :
    Calls Try.prog 54 #[.pointer (some ⟨tb, 0, none⟩), ptr n, .int .i64 (A.length : Nat)] w fun e w' => ∃ (m : Tr d) (σ' : Store), e = .returned (ptr m.root) ∧ Env F B σ' w' ∧ Below B w w' ∧
      Has σ' (node n (I1 ++ I2) (A ++ m :: C)) ∧ Upd σ σ' (node n (I1 ++ y :: I2) (A ++ c :: r :: C)).ids (node n (I1 ++ I2) (A ++ m :: C)).ids ∧ m.Ok 15 ∧ m.its.length = 31 ∧ m.ents = c.ents ++ y :: r.ents := by
  obtain ⟨hnd, hn1, hn2, hcI, hrI, hsn⟩ := two_ids hh
  have hcrne : c.root ≠ r.root := ne_of_two hnd
  have hcne : c.root ≠ n := fun e => hn1 (e ▸ c.root_mem)
  have hrne : r.root ≠ n := fun e => hn2 (e ▸ r.root_mem)
  have hkc := kids_get A (r :: C) c
  have hkr := kids_get1 A C c r
  have hl' : ((A ++ c :: r :: C).map Tr.root).length = (I1 ++ y :: I2).length + 1 := by rw [List.length_map]; exact hlen
  obtain ⟨m, ck, rk, mk, hrnd, hcnd, hmnd, hmk, hk2, hmr, hms, hmn, hmok, hm31, hme, hsin⟩ := surg_merge c r (hok c (by simp)) (hok r (by simp)) hr15 hc15 y
  have HG := merge_any F B tb n A.length c.root r.root (I1 ++ y :: I2) c.its r.its _ ck rk σ w hg ht he hsn hl' (by simp; omega) hkc hkr (by rw [hcI.in_root, hcnd]) (by rw [hrI.in_root, hrnd]) hcrne hcne hrne (by omega) hk2 y (get_mid I1 I2 y hI.symm)
  refine HG.mono ?_
  rintro e w' ⟨rfl, he', hb'⟩
  have hk1 : ((A ++ c :: r :: C).map Tr.root).eraseIdx (A.length + 1) = (A ++ c :: C).map Tr.root := by
    have : A ++ c :: r :: C = (A ++ [c]) ++ r :: C := by simp
    rw [this, List.map_append, List.map_cons, erase_mid _ _ _ (by simp)]
    simp
  rw [erase_mid I1 I2 y hI.symm, hk1] at he'
  have ht2 := turn_one (its' := I1 ++ I2) hh hmr hms hmn hsin (σ' := (σ.set c.root ⟨c.its ++ [y] ++ r.its, appK ck rk⟩).set n ⟨I1 ++ I2, some ((A ++ c :: C).map Tr.root)⟩)
    (by rw [Store.set_same]) (by rw [Store.set_other _ _ hcne, Store.set_same, hmnd, hmk]) (fun x e1 e2 => by rw [Store.set_other _ _ e1, Store.set_other _ _ e2])
  exact ⟨m, _, by rw [hmr], he', hb', ht2.1, ht2.2, hmok, hm31, hme⟩

/-- A root without an item. -/
theorem Tr.bare {σ : Store} : {d : Nat} → (T : Tr d) → Has σ T → T.Ok 0 → T.its.length = 0 → (T.nd.kids = none ∧ T.ents = []) ∨ ∃ (d' : Nat) (k : Tr d'), T.nd.kids = some [k.root] ∧ Has σ k ∧ k.Ok 15 ∧ k.ents = T.ents
  | 0, (b, its), _, _, h => .inl ⟨rfl, List.eq_nil_of_length_eq_zero h⟩
  | d + 1, (b, its, ks), hh, hok, h => by
    have hl : ks.length = its.length + 1 := hok.2.2.1
    have h' : its.length = 0 := h
    obtain rfl : its = [] := List.eq_nil_of_length_eq_zero h'
    match ks, hl with
    | [k], _ =>
      refine .inr ⟨d, k, rfl, hh.child (by simp), hok.2.2.2 k (show k ∈ [k] by simp), rfl⟩
theorem Env.empty {F : Keep} {B : Nat} {σ : Store} {w : World} (h : Env F B σ w) : Env F B (fun _ => none) w := ⟨fun _ _ hs => (by cases hs), fun _ _ hs => (by cases hs), h.size, h.keep, h.other⟩
theorem found_of_mem {its : List It} {key : ByteArray} {i : Nat} (hp : Place its key i) (hs : Sorted its) (hk : ∃ e ∈ its, e.key = key) : foundB its key i = true := by
  cases hf : foundB its key i with
  | true => rfl
  | false =>
    obtain ⟨e, he, hek⟩ := hk
    exact absurd hek (look_absent (place_none hp hs hf) e he)
end Go.Proofs.Qxb6603401a
