import Derived.Test.Qxb6603401aSplitT
namespace Go.Proofs.Qxb6603401a
open Go Go.RowKit

theorem sizeL_mem {es : List It} {y : It} (h : y ∈ es) : y.key.size + y.vn ≤ sizeL es := by
  obtain ⟨L, R, rfl⟩ := List.append_of_mem h
  rw [sizeL_append, sizeL_cons]; omega

/-- WHAT IS OWED TO THOSE ABOVE: once this tree has turned as told, the whole tree has. -/
def Wand (f : List It → List It) (dd r2 m0 k : Nat) (es : List It) {d : Nat} (m : Nat) (σ : Store) (t : Tr d) : Prop :=
  ∀ (t2 : Tr d) (σ2 : Store), Upd σ σ2 t.ids t2.ids → Has σ2 t2 → t2.root = t.root → t2.ents = f t.ents → t2.Ok m → k ≤ t2.its.length → ∃ T : Tr dd, Has σ2 T ∧ T.root = r2 ∧ T.Ok m0 ∧ T.ents = f es

theorem Wand.pass {f : List It → List It} {dd r2 m0 k : Nat} {es : List It} {d m : Nat} {σ σ' : Store} {t t' : Tr d} (h : Wand f dd r2 m0 k es m σ t) (hu : Upd σ σ' t.ids t'.ids) (hr : t'.root = t.root) (he : t'.ents = t.ents) : Wand f dd r2 m0 k es m σ' t' :=
  fun t2 σ2 hu2 hh hr2 he2 hok hk => h t2 σ2 (hu.trans hu2) hh (hr2.trans hr) (by rw [he2, he]) hok hk

theorem ok_child {d m b : Nat} {its : List It} {A C : List (Tr d)} {c c' : Tr d} (h : (node b its (A ++ c :: C)).Ok m) (hc : c'.Ok 15) : (node b its (A ++ c' :: C)).Ok m := by
  obtain ⟨h1, h2, h3, h4⟩ := h
  refine ⟨h1, h2, ?_, fun k hk => ?_⟩
  · have : (A ++ c :: C).length = its.length + 1 := h3
    show (A ++ c' :: C).length = its.length + 1
    simp at this ⊢; omega
  · rcases List.mem_append.1 hk with hk | hk
    · exact h4 k (List.mem_append.2 (.inl hk))
    · rcases List.mem_cons.1 hk with rfl | hk
      · exact hc
      · exact h4 k (List.mem_append.2 (.inr (List.mem_cons_of_mem _ hk)))

theorem Wand.down {f : List It → List It} {dd r2 m0 k : Nat} {es : List It} {d m : Nat} {σ : Store} {b : Nat} {its : List It} {A C : List (Tr d)} {c : Tr d} (h : Wand f dd r2 m0 k es m σ (node b its (A ++ c :: C)))
    (hh : Has σ (node b its (A ++ c :: C))) (hok : (node b its (A ++ c :: C)).Ok m) (hk : k ≤ its.length) (hf : f (pre (its.take A.length) (A.map Tr.ents) ++ c.ents ++ post (its.drop A.length) (C.map Tr.ents)) = pre (its.take A.length) (A.map Tr.ents) ++ f c.ents ++ post (its.drop A.length) (C.map Tr.ents)) : Wand f dd r2 m0 k es 15 σ c := by
  intro t2 σ2 hu h2 hr he hok2 _
  have hp := plug hh hu h2 hr
  have hl : (A ++ c :: C).length = its.length + 1 := hok.2.2.1
  have hA : A.length ≤ its.length := by simp at hl; omega
  have hC : C.length = its.length - A.length := by simp at hl; omega
  have key : ∀ c' : Tr d, (node b its (A ++ c' :: C)).ents = pre (its.take A.length) (A.map Tr.ents) ++ c'.ents ++ post (its.drop A.length) (C.map Tr.ents) := fun c' => by
    have := ents_at b (its.take A.length) (its.drop A.length) A C c' (by rw [List.length_take]; omega) (by rw [List.length_drop]; omega)
    rw [List.take_append_drop] at this
    exact this
  refine h _ σ2 hp.2 hp.1 rfl ?_ (ok_child hok hok2) hk
  rw [key, key, he, hf]

theorem Has.child {σ : Store} {d b : Nat} {its : List It} {ks : List (Tr d)} (h : Has σ (node b its ks)) {c : Tr d} (hc : c ∈ ks) : Has σ c := by
  refine ⟨h.here.2 c hc, ?_⟩
  have hnd : (b :: ks.flatMap Tr.ids).Nodup := h.once
  obtain ⟨A, C, rfl⟩ := List.append_of_mem hc
  rw [List.nodup_cons, List.flatMap_append, List.flatMap_cons, List.nodup_append, List.nodup_append] at hnd
  exact hnd.2.2.1.1

/-- DOWN TO A CHILD, by a key: Put. -/
theorem put_down {X : It} {dd r2 : Nat} {es : List It} {d m : Nat} {σ : Store} {b : Nat} {its : List It} {A C : List (Tr d)} {c : Tr d} (h : Wand (putL X) dd r2 1 1 es m σ (node b its (A ++ c :: C)))
    (hh : Has σ (node b its (A ++ c :: C))) (hok : (node b its (A ++ c :: C)).Ok m) (hk : 1 ≤ its.length) (hs : Sorted (node b its (A ++ c :: C)).ents) (hlo : ∀ e ∈ its.take A.length, kc e.key X.key < 0) (hhi : ∀ e ∈ its.drop A.length, kc X.key e.key < 0)
    (hsz : sizeL (putL X es) + sizeL (node b its (A ++ c :: C)).ents = sizeL es + sizeL (putL X (node b its (A ++ c :: C)).ents)) (hle : sizeL (node b its (A ++ c :: C)).ents ≤ sizeL es) :
    Has σ c ∧ c.Ok 15 ∧ Sorted c.ents ∧ sizeL (putL X es) + sizeL c.ents = sizeL es + sizeL (putL X c.ents) ∧ sizeL c.ents ≤ sizeL es ∧ Wand (putL X) dd r2 1 1 es 15 σ c := by
  have hl : (A ++ c :: C).length = its.length + 1 := hok.2.2.1
  have hA : A.length ≤ its.length := by simp at hl; omega
  have hC : C.length = its.length - A.length := by simp at hl; omega
  have key : (node b its (A ++ c :: C)).ents = pre (its.take A.length) (A.map Tr.ents) ++ c.ents ++ post (its.drop A.length) (C.map Tr.ents) := by
    have := ents_at b (its.take A.length) (its.drop A.length) A C c (by rw [List.length_take]; omega) (by rw [List.length_drop]; omega)
    rw [List.take_append_drop] at this
    exact this
  rw [key] at hs hsz hle
  have hL := pre_lt _ _ hs.left.left hlo
  have hR := post_gt _ _ hs.right hhi
  rw [putL_mid hL hR] at hsz
  simp only [sizeL_append] at hsz hle
  exact ⟨hh.child (by simp), hok.2.2.2 c (show c ∈ A ++ c :: C by simp), hs.left.right, by omega, by omega, h.down hh hok hk (putL_mid hL hR)⟩

/-- The same tree with other items at its root. -/
def Tr.withIts : {d : Nat} → Tr d → List It → Tr d
  | 0, t, its => (t.1, its)
  | _ + 1, t, its => (t.1, its, t.2.2)
theorem Tr.withIts_root : {d : Nat} → (t : Tr d) → (its : List It) → (t.withIts its).root = t.root
  | 0, _, _ => rfl
  | _ + 1, _, _ => rfl
theorem Tr.withIts_its : {d : Nat} → (t : Tr d) → (its : List It) → (t.withIts its).its = its
  | 0, _, _ => rfl
  | _ + 1, _, _ => rfl
theorem Tr.withIts_ids : {d : Nat} → (t : Tr d) → (its : List It) → (t.withIts its).ids = t.ids
  | 0, _, _ => rfl
  | _ + 1, _, _ => rfl
theorem Tr.withIts_ok {m m' : Nat} : {d : Nat} → (t : Tr d) → (its : List It) → t.Ok m → its.length = t.its.length → m' ≤ its.length → (t.withIts its).Ok m'
  | 0, t, its, h, hl, hm => ⟨hm, by have := h.2; have hl' : its.length = t.2.length := hl; show its.length ≤ 31; omega⟩
  | _ + 1, t, its, h, hl, hm => by
    have hl' : its.length = t.2.1.length := hl
    exact ⟨hm, by show its.length ≤ 31; rw [hl']; exact h.2.1, by show t.2.2.length = its.length + 1; rw [hl']; exact h.2.2.1, h.2.2.2⟩
theorem Tr.withIts_has {σ : Store} : {d : Nat} → {t : Tr d} → (its : List It) → Has σ t → Has (σ.set t.root ⟨its, t.nd.kids⟩) (t.withIts its) ∧ Upd σ (σ.set t.root ⟨its, t.nd.kids⟩) t.ids (t.withIts its).ids
  | 0, t, its, h => ⟨⟨Store.set_same _ _ _, h.once⟩, ⟨fun b hb _ => Store.set_other _ _ (fun e => hb (by rw [e]; exact t.root_mem)), fun b hb => .inl hb⟩⟩
  | d + 1, t, its, h => by
    have hnd : (t.1 :: t.2.2.flatMap Tr.ids).Nodup := h.once
    refine ⟨⟨⟨Store.set_same _ _ _, in_all h.here.2 (fun x hx => Store.set_other _ _ (fun e => ?_))⟩, h.once⟩, ⟨fun b hb _ => Store.set_other _ _ (fun e => hb (by rw [e]; exact t.root_mem)), fun b hb => .inl hb⟩⟩
    have e' : x = t.1 := e
    rw [e'] at hx
    exact (List.nodup_cons.1 hnd).1 hx
theorem Tr.ents_set {m : Nat} : {d : Nat} → (t : Tr d) → t.Ok m → {i : Nat} → {y : It} → t.its[i]? = some y → ∃ L R, t.ents = L ++ y :: R ∧ ∀ X, (t.withIts (t.its.set i X)).ents = L ++ X :: R
  | 0, (b, its), _, i, y, hy => by
    have hy' : its[i]? = some y := hy
    have hd := drop_at hy'
    obtain ⟨hi, _⟩ := List.getElem?_eq_some_iff.1 hy'
    refine ⟨its.take i, its.drop (i + 1), ?_, fun X => ?_⟩
    · show its = _
      rw [List.append_assoc, List.singleton_append] at hd
      exact hd
    · show its.set i X = _
      conv => lhs; rw [hd]
      rw [set_mid _ _ _ _ (by rw [List.length_take]; omega)]
      simp
  | d + 1, (b, its, ks), hok, i, y, hy => by
    have hy' : its[i]? = some y := hy
    obtain ⟨hi, _⟩ := List.getElem?_eq_some_iff.1 hy'
    obtain ⟨A, c, r, C, rfl, hA, hits, hC, hents⟩ := node_item (b := b) hok hy'
    refine ⟨pre (its.take i) (A.map Tr.ents) ++ c.ents, r.ents ++ post (its.drop (i + 1)) (C.map Tr.ents), ?_, fun X => ?_⟩
    · rw [show Tr.ents (d := d + 1) (b, its, A ++ c :: r :: C) = _ from hents]; simp
    · have e : its.set i X = its.take i ++ X :: its.drop (i + 1) := by
        conv => lhs; rw [hits]
        have := set_mid (its.take i) y X (its.drop (i + 1)) (i := i) (by rw [List.length_take]; omega)
        simpa using this
      show (node b (its.set i X) (A ++ c :: r :: C)).ents = _
      rw [e, ents_at2 b _ _ X A C c r (by rw [List.length_take]; omega) (by rw [List.length_drop]; omega)]
      simp
end Go.Proofs.Qxb6603401a
