import Derived.Test.Qxb6603401aMerge
namespace Go.Proofs.Qxb6603401a
open Go Go.RowKit
set_option linter.unusedSimpArgs false
set_option linter.unusedVariables false

theorem set_mid {α : Type} (A : List α) (x y : α) (C : List α) {i : Nat} (h : i = A.length) : (A ++ [x] ++ C).set i y = A ++ [y] ++ C := by
  subst h; simp

/-- Two cells of a row of items are written. -/
theorem Items.store {w : World} {b : Nat} {its : List It} (h : Items w b its) {j : Nat} (hj : j < its.length) (z : It) :
    Items ((w.setCell ⟨b, j * 2, none⟩ (.string z.key)).setCell ⟨b, j * 2 + 1, none⟩ z.val) b (its.set j z) := by
  obtain ⟨sp, hg, hl⟩ := h
  have h1 := setCell_heap (j := j * 2 + 1) (setCell_heap (j := j * 2) hg (.string z.key)) z.val
  refine ⟨sp, ?_, ?_⟩
  · rw [h1]
    congr 2
    have hd := drop_at (List.getElem?_eq_getElem hj)
    have e : flat its ++ sp = flat (its.take j) ++ ([.string its[j].key, its[j].val] ++ (flat (its.drop (j + 1)) ++ sp)) := by
      conv => lhs; rw [hd, flat_append, flat_append, flat_one]
      simp
    have e2 : flat (its.set j z) ++ sp = flat (its.take j) ++ ([.string z.key, z.val] ++ (flat (its.drop (j + 1)) ++ sp)) := by
      have : its.set j z = its.take j ++ [z] ++ its.drop (j + 1) := by
        conv => lhs; rw [hd]
        exact set_mid _ _ _ _ (by rw [List.length_take]; omega)
      rw [this, flat_append, flat_append, flat_one]
      simp
    have hlen : (flat (its.take j)).length = j * 2 := by rw [flat_length, List.length_take]; omega
    apply Array.ext'
    simp only [Array.toList_setIfInBounds, List.toList_toArray]
    rw [e, e2, List.set_append, if_neg (by omega), List.set_append, if_neg (by omega)]
    simp [hlen]
  · rw [List.length_append, flat_length, List.length_set] at *
    omega

theorem NodeAt.set_items {w w1 : World} {b : Nat} {nd : Nd} (h : NodeAt w b nd) {its' : List It} (hc : Chg [b] w w1) (hi : Items w1 b its') (hl : its'.length = nd.its.length) :
    NodeAt w1 b ⟨its', nd.kids⟩ ∧ Chg (nd.blocks b) w w1 := by
  refine ⟨⟨?_, hi, fun ks hk => (h.kids ks hk).chg hc (by simp)⟩, hc.mono (fun x hx => by simp at hx; subst hx; unfold Nd.blocks; split <;> simp)⟩
  have := hc.heap h.head (by simp)
  simp only [hl]
  exact this

set_option maxHeartbeats 2000000 in
set_option maxRecDepth 100000 in
theorem grow_spare (F : Keep) (B tb n i c : Nat) (its ci : List It) (ks : List Nat) (ck : Option (List Nat)) (σ : Store) (w : World) (hg : Gen tb w) (he : Env F B σ w) (hn : σ n = some ⟨its, some ks⟩)
    (hkc : ks[i]? = some c) (hc : σ c = some ⟨ci, ck⟩) (hlc : 15 < ci.length) :
    Calls Try.prog 51 #[.pointer (some ⟨tb, 0, none⟩), ptr n, .int .i64 i] w fun e w' => e = .returned (ptr c) ∧ Env F B σ w' ∧ Below B w w' := by
  obtain ⟨hi1, ekc⟩ := List.getElem?_eq_some_iff.1 hkc
  have hN := he.rep n _ hn
  have hC := he.rep c _ hc
  have h1 : w.cell? ⟨n + 1, 2, none⟩ = some (.slice (some ⟨n + 2, 0, none⟩) ks.length 32) := hN.khdr
  have h2 := hN.kid rfl hi1
  rw [ekc] at h2
  have h3 : w.cell? ⟨c + 1, 1, none⟩ = some (.slice (some ⟨c, 0, none⟩) ci.length 31) := hC.hdr
  have hlen := hN.klen rfl
  have hlen2 := hC.len
  have z1 : (0 : Int) ≤ (i : Int) := Int.natCast_nonneg _
  have z2 : (i : Int) < (ks.length : Int) := by omega
  have z3 : (15 : Int) < (ci.length : Int) := by omega
  have HM := mutableChild_any F B tb n i _ _ ks σ w hg he hn rfl hi1 (by rw [ekc]; exact hc)
  rw [ekc] at HM
  clear hN hC ekc hkc hg he hn hc
  unfold ptr at *
  go_enter Try.func51, Try.ntmps51
  go_wp2_with fail
  refine HM.mono ?_
  rintro e w' ⟨rfl, he', hb'⟩
  go_wp2_with fail
  go_ret
  exact ⟨rfl, he', hb'⟩

set_option maxHeartbeats 2000000 in
set_option maxRecDepth 100000 in
/-- MERGE, with the child's right neighbour. -/
theorem grow_merge (F : Keep) (B tb n i c r : Nat) (its ci ri : List It) (ks : List Nat) (ck rk : Option (List Nat)) (σ : Store) (w : World) (hg : Gen tb w) (ht : tb < B) (he : Env F B σ w) (hn : σ n = some ⟨its, some ks⟩) (hl : ks.length = its.length + 1) (hi : i < its.length)
    (hkc : ks[i]? = some c) (hkr : ks[i + 1]? = some r) (hc : σ c = some ⟨ci, ck⟩) (hr : σ r = some ⟨ri, rk⟩) (hcr : c ≠ r) (hcn : c ≠ n) (hrn : r ≠ n) (hll : ci.length + ri.length + 1 ≤ 31)
    (hk2 : (ck = none ∧ rk = none) ∨ ∃ a b, ck = some a ∧ rk = some b ∧ a.length + b.length ≤ 32) (x : It) (hx : its[i]? = some x) (hlc : ci.length ≤ 15) (hlr : ri.length ≤ 15)
    (hleft : ∀ j, i = j + 1 → ∃ l nl, ks[j]? = some l ∧ σ l = some nl ∧ nl.its.length ≤ 15) :
    Calls Try.prog 51 #[.pointer (some ⟨tb, 0, none⟩), ptr n, .int .i64 i] w fun e w' => e = .returned (ptr c) ∧
      Env F B ((σ.set c ⟨ci ++ [x] ++ ri, appK ck rk⟩).set n ⟨its.eraseIdx i, some (ks.eraseIdx (i + 1))⟩) w' ∧ Below B w w' := by
  obtain ⟨hi1, ekc⟩ := List.getElem?_eq_some_iff.1 hkc
  obtain ⟨hi2, ekr⟩ := List.getElem?_eq_some_iff.1 hkr
  have HM := fun (W : World) hg he => merge_any F B tb n i c r its ci ri ks ck rk σ W hg ht he hn hl hi hkc hkr hc hr hcr hcn hrn hll hk2 x hx
  have hN := he.rep n _ hn
  have hC := he.rep c _ hc
  have hR := he.rep r _ hr
  have h1 : w.cell? ⟨n + 1, 2, none⟩ = some (.slice (some ⟨n + 2, 0, none⟩) ks.length 32) := hN.khdr
  have h1' : w.cell? ⟨n + 1, 1, none⟩ = some (.slice (some ⟨n, 0, none⟩) its.length 31) := hN.hdr
  have h2 := hN.kid rfl hi1
  rw [ekc] at h2
  have h2' := hN.kid rfl hi2
  rw [ekr] at h2'
  have h3 : w.cell? ⟨c + 1, 1, none⟩ = some (.slice (some ⟨c, 0, none⟩) ci.length 31) := hC.hdr
  have h4 : w.cell? ⟨r + 1, 1, none⟩ = some (.slice (some ⟨r, 0, none⟩) ri.length 31) := hR.hdr
  have hlen := hN.klen rfl
  have z1 : (0 : Int) ≤ (i : Int) := Int.natCast_nonneg _
  have z2 : (i : Int) + 1 < (ks.length : Int) := by omega
  have z3 : (ci.length : Int) ≤ 15 := by omega
  have z4 : (ri.length : Int) ≤ 15 := by omega
  have z5 : (i : Int) < (its.length : Int) := by omega
  have z6 : (its.length : Int) ≤ 31 := by omega
  have HE : Hid (Gen tb w ∧ Env F B σ w) := ⟨hg, he⟩
  cases i with
  | zero =>
    clear hN hC hR ekc ekr hkc hkr hg he hn hc hl hx hleft hcr hcn hrn hk2
    unfold ptr at *
    go_enter Try.func51, Try.ntmps51
    go_wp2_with fail
    refine (HM _ HE.out.1 HE.out.2).mono ?_
    rintro e w' ⟨rfl, he', hb'⟩
    go_wp2_with fail
    go_ret
    exact ⟨rfl, he', hb'⟩
  | succ j =>
    obtain ⟨l, nl, hkl, hsl, hll15⟩ := hleft j rfl
    obtain ⟨hj, ekl⟩ := List.getElem?_eq_some_iff.1 hkl
    have h5 := hN.kid rfl hj
    rw [ekl] at h5
    have h6 := (he.rep l _ hsl).hdr
    have z7 : (nl.its.length : Int) ≤ 15 := by omega
    clear hN hC hR ekc ekr hkc hkr hg he hn hc hl hx hleft hcr hcn hrn hk2 ekl hkl hsl
    unfold ptr at *
    go_enter Try.func51, Try.ntmps51
    go_wp2_with fail
    refine (HM _ HE.out.1 HE.out.2).mono ?_
    rintro e w' ⟨rfl, he', hb'⟩
    go_wp2_with fail
    go_ret
    exact ⟨rfl, he', hb'⟩
end Go.Proofs.Qxb6603401a
