import Derived.Test.Qxb6603401aGrow
namespace Go.Proofs.Qxb6603401a
open Go Go.RowKit
set_option linter.unusedSimpArgs false
set_option linter.unusedVariables false

theorem Env.eq {F : Keep} {B : Nat} {σ σ' : Store} {w : World} (h : Env F B σ w) (e : ∀ x, σ x = σ' x) : Env F B σ' w := by
  have : σ = σ' := funext e
  rw [← this]; exact h

set_option maxHeartbeats 4000000 in
set_option maxRecDepth 100000 in
/-- MERGE, of the last child with its left neighbour. -/
theorem grow_last (F : Keep) (B tb n j c l : Nat) (its ci li : List It) (ks : List Nat) (ck lk : Option (List Nat)) (σ : Store) (w : World) (hg : Gen tb w) (ht : tb < B) (he : Env F B σ w) (hn : σ n = some ⟨its, some ks⟩) (hl : ks.length = its.length + 1) (hj : j + 1 = its.length)
    (hkl : ks[j]? = some l) (hkc : ks[j + 1]? = some c) (hsl : σ l = some ⟨li, lk⟩) (hc : σ c = some ⟨ci, ck⟩) (hlc : l ≠ c) (hln : l ≠ n) (hcn : c ≠ n) (hll : li.length + ci.length + 1 ≤ 31)
    (hk2 : (lk = none ∧ ck = none) ∨ ∃ a b, lk = some a ∧ ck = some b ∧ a.length + b.length ≤ 32) (x : It) (hx : its[j]? = some x) (hc15 : ci.length ≤ 15) (hl15 : li.length ≤ 15) :
    Calls Try.prog 51 #[.pointer (some ⟨tb, 0, none⟩), ptr n, .int .i64 (j + 1)] w fun e w' => e = .returned (ptr l) ∧
      Env F B ((σ.set l ⟨li ++ [x] ++ ci, appK lk ck⟩).set n ⟨its.eraseIdx j, some (ks.eraseIdx (j + 1))⟩) w' ∧ Below B w w' := by
  obtain ⟨hi1, ekl⟩ := List.getElem?_eq_some_iff.1 hkl
  obtain ⟨hi2, ekc⟩ := List.getElem?_eq_some_iff.1 hkc
  have HM := fun (W : World) hg he => merge_any F B tb n j l c its li ci ks lk ck σ W hg ht he hn hl (by omega) hkl hkc hsl hc hlc hln hcn hll hk2 x hx
  have hN := he.rep n _ hn
  have hC := he.rep c _ hc
  have hL := he.rep l _ hsl
  have h1 : w.cell? ⟨n + 1, 2, none⟩ = some (.slice (some ⟨n + 2, 0, none⟩) ks.length 32) := hN.khdr
  have h1' : w.cell? ⟨n + 1, 1, none⟩ = some (.slice (some ⟨n, 0, none⟩) (j + 1) 31) := by
    have := hN.hdr
    simp only [← hj] at this
    exact this
  have h2 := hN.kid rfl hi1
  rw [ekl] at h2
  have h2' := hN.kid rfl hi2
  rw [ekc] at h2'
  have h3 : w.cell? ⟨c + 1, 1, none⟩ = some (.slice (some ⟨c, 0, none⟩) ci.length 31) := hC.hdr
  have h4 : w.cell? ⟨l + 1, 1, none⟩ = some (.slice (some ⟨l, 0, none⟩) li.length 31) := hL.hdr
  have hlen := hN.klen rfl
  have z1 : (0 : Int) ≤ (j : Int) := Int.natCast_nonneg _
  have z2 : (j : Int) + 1 < (ks.length : Int) := by omega
  have z3 : (ci.length : Int) ≤ 15 := by omega
  have z4 : (li.length : Int) ≤ 15 := by omega
  have z6 : (j : Int) + 1 ≤ 31 := by have := hN.len; simp at this; omega
  have HE : Hid (Gen tb w ∧ Env F B σ w) := ⟨hg, he⟩
  clear hN hC hL ekc ekl hkc hkl hg he hn hc hl hx hlc hcn hln hk2 hj hsl
  unfold ptr at *
  go_enter Try.func51, Try.ntmps51
  go_wp2_with fail
  refine (HM _ HE.out.1 HE.out.2).mono ?_
  rintro e w' ⟨rfl, he', hb'⟩
  go_wp2_with fail
  go_ret
  exact ⟨rfl, he', hb'⟩
end Go.Proofs.Qxb6603401a
