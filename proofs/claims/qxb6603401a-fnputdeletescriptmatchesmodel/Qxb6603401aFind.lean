import Derived.Test.Qxb6603401aGrowT
namespace Go.Proofs.Qxb6603401a
open Go Go.RowKit

theorem Sorted.left {a b : List It} (h : Sorted (a ++ b)) : Sorted a := (List.pairwise_append.1 h).1
theorem Sorted.right {a b : List It} (h : Sorted (a ++ b)) : Sorted b := (List.pairwise_append.1 h).2.1
theorem Sorted.cross {a b : List It} (h : Sorted (a ++ b)) {x y : It} (hx : x ∈ a) (hy : y ∈ b) : kc x.key y.key < 0 := (List.pairwise_append.1 h).2.2 x hx y hy

theorem pre_lt {key : ByteArray} : ∀ (I : List It) (E : List (List It)), Sorted (pre I E) → (∀ e ∈ I, kc e.key key < 0) → ∀ e ∈ pre I E, kc e.key key < 0
  | [], _, _, _, e, he => by simp [pre] at he
  | _ :: _, [], _, _, e, he => by simp [pre] at he
  | x :: xs, f :: E, hs, h, e, he => by
    have hs' : Sorted (f ++ x :: pre xs E) := hs
    have he' : e ∈ f ++ x :: pre xs E := he
    rcases List.mem_append.1 he' with he | he
    · exact kc_trans (hs'.cross he List.mem_cons_self) (h x List.mem_cons_self)
    · rcases List.mem_cons.1 he with rfl | he
      · exact h _ List.mem_cons_self
      · exact pre_lt xs E (List.pairwise_cons.1 hs'.right).2 (fun e he => h e (List.mem_cons_of_mem _ he)) e he
theorem post_gt {key : ByteArray} : ∀ (I : List It) (E : List (List It)), Sorted (post I E) → (∀ e ∈ I, kc key e.key < 0) → ∀ e ∈ post I E, kc key e.key < 0
  | [], _, _, _, e, he => by simp [post] at he
  | _ :: _, [], _, _, e, he => by simp [post] at he
  | x :: xs, f :: E, hs, h, e, he => by
    have hs' : Sorted ((x :: f) ++ post xs E) := hs
    have he' : e ∈ (x :: f) ++ post xs E := he
    rcases List.mem_append.1 he' with he | he
    · rcases List.mem_cons.1 he with rfl | he
      · exact h _ List.mem_cons_self
      · exact kc_trans (h x List.mem_cons_self) ((List.pairwise_cons.1 hs'.left).1 e he)
    · exact post_gt xs E hs'.right (fun e he => h e (List.mem_cons_of_mem _ he)) e he

theorem inter_sub : ∀ (I : List It) (E : List (List It)), I.length ≤ E.length → List.Sublist I (inter I E)
  | [], _, _ => List.nil_sublist _
  | x :: xs, [], h => by simp at h
  | x :: xs, e :: E, h => by
    have := inter_sub xs E (by simpa using h)
    show List.Sublist (x :: xs) (e ++ x :: inter xs E)
    exact ((this.cons_cons x).trans (List.sublist_append_right e _))

theorem Tr.its_sub : {d : Nat} → {m : Nat} → (t : Tr d) → t.Ok m → List.Sublist t.its t.ents
  | 0, _, _, _ => List.Sublist.refl _
  | d + 1, _, t, h => inter_sub t.2.1 _ (by rw [List.length_map]; have := h.2.2.1; omega)
theorem Tr.its_sorted {d m : Nat} {t : Tr d} (h : t.Ok m) (hs : Sorted t.ents) : Sorted t.its := List.Pairwise.sublist (t.its_sub h) hs

/-- The key stands at i, not found: what lies ahead is less, what lies behind is more. -/
theorem Place.lo {its : List It} {key : ByteArray} {i : Nat} (h : Place its key i) : ∀ e ∈ its.take i, kc e.key key < 0 := by
  intro e he
  obtain ⟨j, hj, rfl⟩ := List.getElem_of_mem he
  rw [List.length_take] at hj
  rw [List.getElem_take]
  exact h.lt j (by omega) (by omega)
theorem Place.hi {its : List It} {key : ByteArray} {i : Nat} (h : Place its key i) (hs : Sorted its) (hf : foundB its key i = false) : ∀ e ∈ its.drop i, kc key e.key < 0 := by
  intro e he
  obtain ⟨j, hj, rfl⟩ := List.getElem_of_mem he
  rw [List.length_drop] at hj
  rw [List.getElem_drop]
  have hi : i < its.length := by omega
  have h0 : kc key its[i].key < 0 := by
    have h1 := h.ge i hi (Nat.le_refl _)
    have h2 : its[i].key ≠ key := by
      intro e
      simp [foundB, List.getElem?_eq_getElem hi, e] at hf
    have h3 : kc its[i].key key ≠ 0 := fun h => h2 (kc_zero h)
    rw [kc_swap its[i].key key]
    omega
  cases j with
  | zero => exact h0
  | succ j => exact kc_trans h0 (sorted_get hs hi (by omega) (by omega))
theorem found_get {its : List It} {key : ByteArray} {i : Nat} (hf : foundB its key i = true) : ∃ y, its[i]? = some y ∧ y.key = key := by
  unfold foundB at hf
  cases h : its[i]? with
  | none => simp [h] at hf
  | some y => exact ⟨y, rfl, by simpa [h] using hf⟩

/-- What the list holds under a key. -/
def look (key : ByteArray) (es : List It) : Option It := es.find? fun e => decide (e.key = key)
theorem look_none {key : ByteArray} {es : List It} (h : ∀ e ∈ es, e.key ≠ key) : look key es = none := by
  unfold look
  rw [List.find?_eq_none]
  intro e he; simpa using h e he
theorem look_append (key : ByteArray) (a b : List It) : look key (a ++ b) = (look key a).or (look key b) := List.find?_append
theorem look_mid {key : ByteArray} {L E R : List It} (hL : ∀ e ∈ L, kc e.key key < 0) (hR : ∀ e ∈ R, kc key e.key < 0) : look key (L ++ E ++ R) = look key E := by
  rw [look_append, look_append, look_none (fun e he h => by have := hL e he; rw [h, kc_refl] at this; omega), look_none (es := R) (fun e he h => by have := hR e he; rw [h, kc_refl] at this; omega)]
  simp
theorem look_here {key : ByteArray} {L R : List It} {y : It} (hL : ∀ e ∈ L, kc e.key key < 0) (hy : y.key = key) : look key (L ++ y :: R) = some y := by
  rw [look_append, look_none (fun e he h => by have := hL e he; rw [h, kc_refl] at this; omega)]
  simp [look, hy]

theorem look_mem {es : List It} (hs : Sorted es) {y : It} (hy : y ∈ es) : look y.key es = some y := by
  obtain ⟨L, R, rfl⟩ := List.append_of_mem hy
  exact look_here (fun e he => hs.cross he List.mem_cons_self) rfl
theorem place_none {its : List It} {key : ByteArray} {i : Nat} (h : Place its key i) (hs : Sorted its) (hf : foundB its key i = false) : look key its = none := by
  have := look_mid (E := []) h.lo (h.hi hs hf)
  rw [List.append_nil, List.take_append_drop] at this
  exact this

/-- A node's contents around the place of a key. -/
theorem node_around {d m : Nat} {b : Nat} {its : List It} {ks : List (Tr d)} (hok : (node b its ks).Ok m) {i : Nat} (hi : i ≤ its.length) :
    ∃ A c C, ks = A ++ c :: C ∧ A.length = i ∧ C.length = its.length - i ∧ (node b its ks).ents = pre (its.take i) (A.map Tr.ents) ++ c.ents ++ post (its.drop i) (C.map Tr.ents) := by
  have hl : ks.length = its.length + 1 := hok.2.2.1
  obtain ⟨A, c, C, rfl, hA⟩ := split_at ks (i := i) (by omega)
  have hC : C.length = its.length - i := by simp at hl; omega
  refine ⟨A, c, C, rfl, hA, hC, ?_⟩
  have := ents_at b (its.take i) (its.drop i) A C c (by rw [List.length_take]; omega) (by rw [List.length_drop]; omega)
  rw [List.take_append_drop] at this
  exact this

/-- A node's contents around an item. -/
theorem node_item {d m : Nat} {b : Nat} {its : List It} {ks : List (Tr d)} (hok : (node b its ks).Ok m) {i : Nat} {y : It} (hy : its[i]? = some y) :
    ∃ A c r C, ks = A ++ c :: r :: C ∧ A.length = i ∧ its = its.take i ++ y :: its.drop (i + 1) ∧ C.length = its.length - (i + 1) ∧
      (node b its ks).ents = pre (its.take i) (A.map Tr.ents) ++ c.ents ++ y :: r.ents ++ post (its.drop (i + 1)) (C.map Tr.ents) := by
  have hl : ks.length = its.length + 1 := hok.2.2.1
  obtain ⟨hi, hyy⟩ := List.getElem?_eq_some_iff.1 hy
  obtain ⟨A, c, C0, rfl, hA⟩ := split_at ks (i := i) (by omega)
  obtain ⟨r, C, rfl⟩ := cons_of (l := C0) (by intro h; subst h; simp at hl; omega)
  have hits : its = its.take i ++ y :: its.drop (i + 1) := by
    have := drop_at hy
    rw [List.append_assoc, List.singleton_append] at this
    exact this
  have hC : C.length = its.length - (i + 1) := by simp at hl; omega
  refine ⟨A, c, r, C, rfl, hA, hits, hC, ?_⟩
  have := ents_at2 b (its.take i) (its.drop (i + 1)) y A C c r (by rw [List.length_take]; omega) (by rw [List.length_drop]; omega)
  rw [← hits] at this
  exact this
end Go.Proofs.Qxb6603401a
