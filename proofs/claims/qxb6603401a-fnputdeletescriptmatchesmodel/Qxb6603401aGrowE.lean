import Derived.Test.Qxb6603401aGrowB
namespace Go.Proofs.Qxb6603401a
open Go Go.RowKit
set_option linter.unusedSimpArgs false
set_option linter.unusedVariables false

set_option maxHeartbeats 8000000 in
set_option maxRecDepth 100000 in
/-- AN ITEM FROM THE RIGHT NEIGHBOUR. -/
theorem grow_right_mid (F : Keep) (B tb n i c r : Nat) (its ci ri : List It) (y z : It) (ks : List Nat) (ck rk ck' rk' : Option (List Nat)) (σ : Store) (w : World) (hg : Gen tb w) (ht : tb < B) (he : Env F B σ w) (hn : σ n = some ⟨its, some ks⟩) (hl : ks.length = its.length + 1) (hi : i < its.length)
    (hkc : ks[i]? = some c) (hkr : ks[i + 1]? = some r) (hc : σ c = some ⟨ci, ck⟩) (hr : σ r = some ⟨z :: ri, rk⟩) (hcr : c ≠ r) (hcn : c ≠ n) (hrn : r ≠ n)
    (hk2 : (ck = none ∧ rk = none ∧ ck' = none ∧ rk' = none) ∨ ∃ a b q, rk = some (q :: a) ∧ ck = some b ∧ rk' = some a ∧ ck' = some (b ++ [q]) ∧ b.length < 32) (hx : its[i]? = some y) (hc15 : ci.length ≤ 15) (hr15 : 15 ≤ ri.length)
    (j l : Nat) (nl : Nd) (hij : i = j + 1) (hkl : ks[j]? = some l) (hsl : σ l = some nl) (hl15 : nl.its.length ≤ 15) :
    Calls Try.prog 51 #[.pointer (some ⟨tb, 0, none⟩), ptr n, .int .i64 i] w fun e w' => e = .returned (ptr c) ∧
      Env F B (((σ.set n ⟨its.set i z, some ks⟩).set r ⟨ri, rk'⟩).set c ⟨ci ++ [y], ck'⟩) w' ∧ Below B w w' := by
  obtain ⟨hi1, ekc⟩ := List.getElem?_eq_some_iff.1 hkc
  obtain ⟨hi2, ekr⟩ := List.getElem?_eq_some_iff.1 hkr
  have HM1 : Hid (∀ W, Gen tb W → Env F B σ W → Calls Try.prog 53 #[.pointer (some ⟨tb, 0, none⟩), ptr n, .int .i64 i] W fun e w' => e = .returned (ptr c) ∧ Env F B σ w' ∧ Below B W w') := fun W hg he => by
    have := mutableChild_any F B tb n i _ _ ks σ W hg he hn rfl hi1 (by rw [ekc]; exact hc)
    rw [ekc] at this
    exact this
  have HM2 : Hid (∀ W, Gen tb W → Env F B σ W → Calls Try.prog 53 #[.pointer (some ⟨tb, 0, none⟩), ptr n, .int .i64 (i + 1)] W fun e w' => e = .returned (ptr r) ∧ Env F B σ w' ∧ Below B W w') := fun W hg he => by
    have := mutableChild_any F B tb n (i + 1) _ _ ks σ W hg he hn rfl hi2 (by rw [ekr]; exact hr)
    rw [ekr] at this
    exact this
  have hN := he.rep n _ hn
  have hC := he.rep c _ hc
  have hR := he.rep r _ hr
  have h1 : w.cell? ⟨n + 1, 2, none⟩ = some (.slice (some ⟨n + 2, 0, none⟩) ks.length 32) := hN.khdr
  have h1' : w.cell? ⟨n + 1, 1, none⟩ = some (.slice (some ⟨n, 0, none⟩) its.length 31) := hN.hdr
  have h2 := hN.kid rfl hi1
  rw [ekc] at h2
  have h2' := hN.kid rfl hi2
  rw [ekr] at h2'
  have h3 : w.cell? ⟨c + 1, 1, none⟩ = some (.slice (some ⟨c, 0, none⟩) ci.length 31) := hC.hdr
  have h4 : w.cell? ⟨r + 1, 1, none⟩ = some (.slice (some ⟨r, 0, none⟩) (ri.length + 1) 31) := hR.hdr
  have hlen := hN.klen rfl
  have z1 : (0 : Int) ≤ (i : Int) := Int.natCast_nonneg _
  have z2 : (i : Int) + 1 < (ks.length : Int) := by omega
  have z2' : (i : Int) < (ks.length : Int) := by omega
  have z3 : (ci.length : Int) ≤ 15 := by omega
  have z4 : (15 : Int) ≤ (ri.length : Int) := by omega
  have z5 : (i : Int) < (its.length : Int) := by omega
  have hlen2 : its.length ≤ 31 := hN.len
  have hlen3 : ri.length + 1 ≤ 31 := by have := hR.len; simp at this; omega
  have HE : Hid (Gen tb w ∧ Env F B σ w) := ⟨hg, he⟩
  have HS : Hid (σ n = some ⟨its, some ks⟩ ∧ σ c = some ⟨ci, ck⟩ ∧ σ r = some ⟨z :: ri, rk⟩) := ⟨hn, hc, hr⟩
  have HL : Hid (ks.length = its.length + 1 ∧ its[i]? = some y) := ⟨hl, hx⟩
  have HK : Hid ((ck = none ∧ rk = none ∧ ck' = none ∧ rk' = none) ∨ ∃ a b q, rk = some (q :: a) ∧ ck = some b ∧ rk' = some a ∧ ck' = some (b ++ [q]) ∧ b.length < 32) := hk2
  obtain ⟨hjl, ekl⟩ := List.getElem?_eq_some_iff.1 hkl
  have h5 := hN.kid rfl hjl
  rw [ekl] at h5
  have h6 := (he.rep l _ hsl).hdr
  have z7 : (nl.its.length : Int) ≤ 15 := by omega
  have z0 : (0 : Int) < (i : Int) := by omega
  have ej : j = i - 1 := by omega
  subst ej
  clear hij hkl ekl hsl
  clear hN hC hR ekc ekr hkc hkr hg he hn hc hl hx hk2 hr
  unfold ptr at *
  go_enter Try.func51, Try.ntmps51
  go_wp2_with fail
  refine (HM1.out _ HE.out.1 HE.out.2).mono ?_
  rintro e w1 ⟨rfl, he1, hb1⟩
  clear h1 h1' h2 h2' h3 h4
  go_wp2_with fail
  refine (HM2.out _ (HE.out.1.later hb1 ht) he1).mono ?_
  rintro e w2 ⟨rfl, he2, hb2⟩
  have hb2 := hb1.trans hb2
  clear he1 hb1 HM1 HM2
  obtain ⟨ky, vya, vyn, vyc⟩ := y
  obtain ⟨kz, vza, vzn, vzc⟩ := z
  have hNc := he2.rep c _ HS.out.2.1
  have hNn := he2.rep n _ HS.out.1
  have ha1 : w2.cell? ⟨c + 1, 1, none⟩ = some (.slice (some ⟨c, 0, none⟩) ci.length 31) := hNc.hdr
  have ha2 : w2.cell? ⟨n + 1, 1, none⟩ = some (.slice (some ⟨n, 0, none⟩) its.length 31) := hNn.hdr
  have hat := hNn.items.at hi
  have hxx : its[i] = ⟨ky, vya, vyn, vyc⟩ := by
    have := HL.out.2
    rw [List.getElem?_eq_getElem hi] at this; exact Option.some.inj this
  rw [hxx] at hat
  have HX : Hid (its[i] = ⟨ky, vya, vyn, vyc⟩) := hxx
  clear hxx
  go_wp2_with fail
  refine wp_region_T [0, 1, 2, 3, 4, 5, 6, 7, 8, 9, 10, 11] [14, 15, 16] (fun W => (W.cell? ⟨c + 1, 1, none⟩ = some (.slice (some ⟨c, 0, none⟩) ci.length 31) ∧ W.cell? ⟨n + 1, 1, none⟩ = some (.slice (some ⟨n, 0, none⟩) its.length 31)) ∧ W.cell? ⟨n, i * 2, none⟩ = some (.string ky) ∧ W.cell? ⟨n, i * 2 + 1, none⟩ = some (.slice vya vyn vyc)) 5 (by kernel_rfl) (by kernel_rfl) ⟨⟨ha1, ha2⟩, hat⟩ ?_
  iterate 12 (apply wpTake_cons rfl rfl (by rfl); (next => intro W hW; have hW1 := hW.1.1; have hW2 := hW.1.2; have hW3 := hW.2.1; have hW4 := hW.2.2; clear hW; go_simp; first | done | with_reducible rfl | (go_bits; first | done | with_reducible rfl | (go_simp; first | done | with_reducible rfl))); simp only [List.setIfInBounds_toArray, List.set_cons_zero, List.set_cons_succ])
  refine wpTake_nil ?_
  refine wpAnyT_one (r := 12) (by kernel_rfl) rfl ?_
  intro K hK
  go_simp
  have hcA : Chg [] w2 (w2.alloc (.cells #[.string ky, .slice vya vyn vyc] 82)).drew := ((Chg.refl _ _).alloc _).drew
  have hvA : ((w2.alloc (.cells #[.string ky, .slice vya vyn vyc] 82)).drew).heap[w2.heap.size]? = some (.cells #[.string ky, .slice vya vyn vyc] 82 (0, 0)) := heap_alloc_new w2 _
  refine hK.out _ _ ⟨fun _ => ⟨⟨hcA.cell ha1 (by simp), hcA.cell ha2 (by simp)⟩, hcA.cell hat.1 (by simp), hcA.cell hat.2 (by simp)⟩, ?_⟩
  clear hK K
  generalize (w2.alloc (.cells #[.string ky, .slice vya vyn vyc] 82)).drew = wA at *
  have heA := he2.chg0 hcA
  have hbA := hb2.trans (below0 he2.size hcA)
  have hNcA := heA.rep c _ HS.out.2.1
  have hNnA := heA.rep n _ HS.out.1
  have hne1 : c ≠ n + 1 := hNcA.ne1 hNnA
  have hsrc : ∀ j v, ([Value.string ky, Value.slice vya vyn vyc])[j]? = some v → wA.cell? ((⟨w2.heap.size, 0, none⟩ : Addr).add j) = some v := src_at (L := []) (R := []) (by simpa using hvA) rfl
  obtain ⟨spc, hgc, hlc⟩ := hNcA.items
  have hfc := flat_length ci
  refine wpAnyT_one (r := 13) (by kernel_rfl) rfl ?_
  intro K hK
  refine step_append_k rfl _ _ _ rfl 82 2 Try.underlying76 info82 c 0 ci.length 31 rfl _ 1 _ rfl (flat ci ++ spc) 82 (by exact hgc) [.string ky, .slice vya vyn vyc] rfl (fun _ => ⟨_, rfl, hsrc⟩) (by omega) (by rw [hlc]; simp; omega) (by simp [Value.oneCell']) ?_
  intro w3 hg3 hc3
  have f1 := hc3.cell (hcA.cell ha1 (by simp)) (by simp)
  have f3 : w3.frozen? ⟨c + 1, 1, none⟩ = false := hc3.free (hNcA.free 1) hNcA.lt (by simp)
  refine hK.out _ _ ⟨fun _ => ⟨⟨f1, hc3.cell (hcA.cell ha2 (by simp)) (by simp; omega)⟩, hc3.cell (hcA.cell hat.1 (by simp)) (by simp; omega), hc3.cell (hcA.cell hat.2 (by simp)) (by simp; omega)⟩, ?_⟩
  clear hK K
  simp only [Act.put, List.setIfInBounds_toArray, List.set_cons_zero, List.set_cons_succ]
  refine wpAnyT_one (r := 14) (by kernel_rfl) rfl ?_
  intro K hK
  go_simp
  refine hK.out _ _ ⟨(fun h => by cases h), ?_⟩
  clear hK K
  refine wpAnyT_one (r := 15) (by kernel_rfl) rfl ?_
  intro K hK
  go_simp
  refine hK.out _ _ ⟨(fun h => by cases h), ?_⟩
  clear hK K
  refine wpAnyT_one (r := 16) (by kernel_rfl) rfl ?_
  intro K hK
  go_simp
  refine hK.out _ _ ⟨(fun h => by cases h), ?_⟩
  clear hK K
  refine wpAnyT_done (by kernel_rfl) ?_ _
  refine NoPanic.normal ?_
  have hi3 : Items w3 c (ci ++ [⟨ky, vya, vyn, vyc⟩]) := by
    have : RowOf 82 62 w3 c (flat ci ++ [.string ky, .slice vya vyn vyc]) := row_append (old := flat ci) (cs := [.string ky, .slice vya vyn vyc]) hg3.out (by rw [hfc]; omega) hlc (by rw [hfc]; simp; omega)
    unfold Items
    rw [flat_append, flat_one]
    exact this
  have hp3 := hNcA.put_items hc3 hi3 (n := ci.length + 1) (by simp)
  have he3 := heA.turn HS.out.2.1 hp3.2 hp3.1
  have hb3 := hbA.trans (heA.below HS.out.2.1 hp3.2)
  clear hp3 hi3 f1 f3 hc3 hg3 hsrc hgc hlc hNcA hNnA hbA heA hvA hcA ha1 ha2 hat hNc hNn he2 hb2
  generalize w3.setCell ⟨c + 1, 1, none⟩ (.slice (some ⟨c, 0, none⟩) (ci.length + 1) 31) = w4 at *
  go_wp2_with fail
  have hsn := (Store.set_other σ ⟨ci ++ [⟨ky, vya, vyn, vyc⟩], ck⟩ (b := c) hcn.symm).trans HS.out.1
  have hsr := (Store.set_other σ ⟨ci ++ [⟨ky, vya, vyn, vyc⟩], ck⟩ (b := c) hcr.symm).trans HS.out.2.2
  have hNn := he3.rep n _ hsn
  have hNr := he3.rep r _ hsr
  have ha2 : w4.cell? ⟨n + 1, 1, none⟩ = some (.slice (some ⟨n, 0, none⟩) its.length 31) := hNn.hdr
  have ha0 : w4.cell? ⟨r + 1, 1, none⟩ = some (.slice (some ⟨r, 0, none⟩) (ri.length + 1) 31) := hNr.hdr
  have hat : w4.cell? ⟨r, 0, none⟩ = some (.string kz) ∧ w4.cell? ⟨r, 1, none⟩ = some (.slice vza vzn vzc) := hNr.items.at (i := 0) (by simp)
  have zl : (0 : Int) < (ri.length : Int) + 1 := by omega
  have fa := hNn.items.frozen (i * 2)
  have fb := hNn.items.frozen (i * 2 + 1)
  have hob := hNn.items.at hi
  have hob1 := hob.1
  have hob2 := hob.2
  refine wp_region_T [0, 1, 2, 3, 4, 5, 6, 7, 8, 9, 10, 11] [12] (fun W => (W.cell? ⟨n + 1, 1, none⟩ = some (.slice (some ⟨n, 0, none⟩) its.length 31) ∧ W.cell? ⟨r + 1, 1, none⟩ = some (.slice (some ⟨r, 0, none⟩) (ri.length + 1) 31)) ∧ W.cell? ⟨r, 0, none⟩ = some (.string kz) ∧ W.cell? ⟨r, 1, none⟩ = some (.slice vza vzn vzc)) 1 (by kernel_rfl) (by kernel_rfl) ⟨⟨ha2, ha0⟩, hat⟩ ?_
  iterate 12 (apply wpTake_cons rfl rfl (by rfl); (next => intro W hW; have hW1 := hW.1.1; have hW2 := hW.1.2; have hW3 := hW.2.1; have hW4 := hW.2.2; clear hW; go_simp; first | done | with_reducible rfl | (go_bits; first | done | with_reducible rfl | (go_simp; first | done | with_reducible rfl))); simp only [List.setIfInBounds_toArray, List.set_cons_zero, List.set_cons_succ])
  refine wpTake_nil ?_
  refine wpAnyT_one (r := 12) (by kernel_rfl) rfl ?_
  intro K hK
  go_simp
  refine hK.out _ _ ⟨(fun h => by cases h), ?_⟩
  clear hK K
  refine wpAnyT_done (by kernel_rfl) ?_ _
  refine NoPanic.normal ?_
  have hi5 := hNn.items.store hi ⟨kz, vza, vzn, vzc⟩
  have hc5 : Chg [n] w4 ((w4.setCell ⟨n, i * 2, none⟩ (.string kz)).setCell ⟨n, i * 2 + 1, none⟩ (.slice vza vzn vzc)).drew := (((Chg.refl _ _).setCell (.inl (by simp)) _).setCell (.inl (by simp)) _).drew
  have hp5 := hNn.set_items hc5 hi5 (by simp)
  have he5 := he3.turn hsn hp5.2 hp5.1
  have hb5 := hb3.trans (he3.below hsn hp5.2)
  clear hp5 hi5 hc5 hob hob1 hob2 fa fb ha2 ha0 hat hNn hNr he3 hb3
  generalize ((w4.setCell ⟨n, i * 2, none⟩ (.string kz)).setCell ⟨n, i * 2 + 1, none⟩ (.slice vza vzn vzc)).drew = w5 at *
  have hsr5 := (Store.set_other (σ.set c ⟨ci ++ [⟨ky, vya, vyn, vyc⟩], ck⟩) ⟨its.set i ⟨kz, vza, vzn, vzc⟩, some ks⟩ (b := n) hrn).trans hsr
  have hNr := he5.rep r _ hsr5
  have ha0 : w5.cell? ⟨r + 1, 1, none⟩ = some (.slice (some ⟨r, 0, none⟩) (ri.length + 1) 31) := hNr.hdr
  have hrow5 : RowOf 82 62 w5 r ([] ++ flat [⟨kz, vza, vzn, vzc⟩] ++ flat ri) := by
    have := hNr.items
    unfold Items at this
    rw [List.nil_append, ← flat_append]
    exact this
  have HD := delete82 r (ri.length + 1) 0 _ _ _ w5 hrow5 hlen3 (by omega) (by rfl) (by rw [flat_length]; rfl) (by rw [flat_length]; omega) (flat_one_cell _)
  have ecz : (((0 : Nat) : Int)) + 1 = 1 := rfl
  rw [ecz] at HD
  go_wp2_with fail
  refine HD.mono ?_
  rintro e w6 ⟨rfl, hrow6, hc6⟩
  have f1 := hc6.cell ha0 (by simp)
  have f3 := hc6.free (hNr.free 1) hNr.lt (by simp)
  have hNc := he5.rep c _ ((Store.set_other _ _ hcn).trans (Store.set_same _ _ _))
  have hne5 : r ≠ c + 1 := hNr.ne1 hNc
  have hn1 : r + 1 < w6.heap.size := World.block_lt_of_cell? w6 _ f1
  have hlc1 : r + 1 ≠ c + 1 := by omega
  have hit6 : Items w6 r ri := by
    unfold Items
    rw [List.nil_append] at hrow6
    exact hrow6
  have hp6 := hNr.put_items hc6 hit6 (n := ri.length) rfl
  have he6 := he5.turn hsr5 hp6.2 hp6.1
  have hb6 := hb5.trans (he5.below hsr5 hp6.2)
  have hn77 := notnil77
  rcases HK.out with ⟨rfl, rfl, rfl, rfl⟩ | ⟨a, b, q, rfl, rfl, rfl, rfl, hkb⟩
  · have f4 : w6.cell? ⟨c + 1, 2, none⟩ = some (.slice none 0 0) := hc6.cell hNc.khdr (by simp; omega)
    go_wp2_with fail
    go_ret
    refine ⟨rfl, he6.eq (fun x => ?_), hb6⟩
    simp only [Store.set]
    by_cases e1 : x = r <;> by_cases e2 : x = n <;> by_cases e3 : x = c <;> simp [e1, e2, e3] <;> (subst_vars; simp_all)
  · have f4 : w6.cell? ⟨c + 1, 2, none⟩ = some (.slice (some ⟨c + 2, 0, none⟩) b.length 32) := hc6.cell hNc.khdr (by simp; omega)
    go_wp2_with fail
    clear hp6 hit6 f1 f3 f4 hc6 hrow6 HD hrow5 ha0 hNr hNc he5 hb5
    generalize w6.setCell ⟨r + 1, 1, none⟩ (.slice (some ⟨r, 0, none⟩) ri.length 31) = w7 at *
    have hsr7 := Store.set_same ((σ.set c ⟨ci ++ [⟨ky, vya, vyn, vyc⟩], some b⟩).set n ⟨its.set i ⟨kz, vza, vzn, vzc⟩, some ks⟩) r ⟨ri, some (q :: a)⟩
    have hsc7 := (Store.set_other ((σ.set c ⟨ci ++ [⟨ky, vya, vyn, vyc⟩], some b⟩).set n ⟨its.set i ⟨kz, vza, vzn, vzc⟩, some ks⟩) ⟨ri, some (q :: a)⟩ (b := r) hcr).trans ((Store.set_other (σ.set c ⟨ci ++ [⟨ky, vya, vyn, vyc⟩], some b⟩) ⟨its.set i ⟨kz, vza, vzn, vzc⟩, some ks⟩ (b := n) hcn).trans (Store.set_same _ _ _))
    have hNr := he6.rep r _ hsr7
    have hNc := he6.rep c _ hsc7
    have ha1 : w7.cell? ⟨c + 1, 2, none⟩ = some (.slice (some ⟨c + 2, 0, none⟩) b.length 32) := hNc.khdr
    have ha2 : w7.cell? ⟨r + 1, 2, none⟩ = some (.slice (some ⟨r + 2, 0, none⟩) (a.length + 1) 32) := hNr.khdr
    have ha3 : w7.cell? ⟨r + 2, 0, none⟩ = some (.pointer (some ⟨q + 1, 0, none⟩)) := hNr.kid rfl (i := 0) (by simp)
    have zl4 : (0 : Int) < (a.length : Int) + 1 := by omega
    have hal : a.length + 1 ≤ 32 := hNr.klen rfl
    refine wp_region_T [0, 1, 2, 3, 4, 5, 6, 7, 8, 9, 10] [13, 14, 15] (fun W => (W.cell? ⟨c + 1, 2, none⟩ = some (.slice (some ⟨c + 2, 0, none⟩) b.length 32) ∧ W.cell? ⟨r + 1, 2, none⟩ = some (.slice (some ⟨r + 2, 0, none⟩) (a.length + 1) 32)) ∧ W.cell? ⟨r + 2, 0, none⟩ = some (.pointer (some ⟨q + 1, 0, none⟩))) 5 (by kernel_rfl) (by kernel_rfl) ⟨⟨ha1, ha2⟩, ha3⟩ ?_
    iterate 11 (apply wpTake_cons rfl rfl (by rfl); (next => intro W hW; have hW1 := hW.1.1; have hW2 := hW.1.2; have hW3 := hW.2; clear hW; go_simp; first | done | with_reducible rfl | (go_bits; first | done | with_reducible rfl | (go_simp; first | done | with_reducible rfl))); simp only [List.setIfInBounds_toArray, List.set_cons_zero, List.set_cons_succ])
    refine wpTake_nil ?_
    refine wpAnyT_one (r := 11) (by kernel_rfl) rfl ?_
    intro K hK
    go_simp
    have hcA : Chg [] w7 (w7.alloc (.cells #[.pointer (some ⟨q + 1, 0, none⟩)] 30)).drew := ((Chg.refl _ _).alloc _).drew
    have hvA : ((w7.alloc (.cells #[.pointer (some ⟨q + 1, 0, none⟩)] 30)).drew).heap[w7.heap.size]? = some (.cells #[.pointer (some ⟨q + 1, 0, none⟩)] 30 (0, 0)) := heap_alloc_new w7 _
    refine hK.out _ _ ⟨fun _ => ⟨⟨hcA.cell ha1 (by simp), hcA.cell ha2 (by simp)⟩, hcA.cell ha3 (by simp)⟩, ?_⟩
    clear hK K
    generalize (w7.alloc (.cells #[.pointer (some ⟨q + 1, 0, none⟩)] 30)).drew = wA at *
    have heA := he6.chg0 hcA
    have hbA := hb6.trans (below0 he6.size hcA)
    have hNcA := heA.rep c _ hsc7
    have hNrA := heA.rep r _ hsr7
    have hne6 : r + 1 ≠ c + 2 := hNrA.ne3 hNcA rfl
    have hsrc : ∀ j v, ([ptr q])[j]? = some v → wA.cell? ((⟨w7.heap.size, 0, none⟩ : Addr).add j) = some v := src_at (L := []) (R := []) (by simpa [ptr] using hvA) rfl
    obtain ⟨spc, hgc, hlc⟩ := hNcA.kids _ rfl
    refine wpAnyT_one (r := 12) (by kernel_rfl) rfl ?_
    intro K hK
    refine step_append_k rfl _ _ _ rfl 30 1 Try.underlying77 info30 (c + 2) 0 b.length 32 rfl _ 1 _ rfl (b.map ptr ++ spc) 30 (by exact hgc) [ptr q] rfl (fun _ => ⟨_, rfl, hsrc⟩) (by omega) (by rw [hlc]; simp; omega) (by simp [ptr, Value.oneCell']) ?_
    intro w8 hg8 hc8
    have f1 := hc8.cell (hcA.cell ha1 (by simp)) (by simp)
    have f3 : w8.frozen? ⟨c + 1, 2, none⟩ = false := hc8.free (hNcA.free 2) hNcA.lt (by simp)
    refine hK.out _ _ ⟨fun _ => ⟨⟨f1, hc8.cell (hcA.cell ha2 (by simp)) (by simp; omega)⟩, hc8.cell (hcA.cell ha3 (by simp)) (by simp; omega)⟩, ?_⟩
    clear hK K
    simp only [Act.put, List.setIfInBounds_toArray, List.set_cons_zero, List.set_cons_succ]
    refine wpAnyT_one (r := 13) (by kernel_rfl) rfl ?_
    intro K hK
    go_simp
    refine hK.out _ _ ⟨(fun h => by cases h), ?_⟩
    clear hK K
    refine wpAnyT_one (r := 14) (by kernel_rfl) rfl ?_
    intro K hK
    go_simp
    refine hK.out _ _ ⟨(fun h => by cases h), ?_⟩
    clear hK K
    refine wpAnyT_one (r := 15) (by kernel_rfl) rfl ?_
    intro K hK
    go_simp
    refine hK.out _ _ ⟨(fun h => by cases h), ?_⟩
    clear hK K
    refine wpAnyT_done (by kernel_rfl) ?_ _
    refine NoPanic.normal ?_
    have hi8 : RowOf 30 32 w8 (c + 2) ((b ++ [q]).map ptr) := by
      have : RowOf 30 32 w8 (c + 2) (b.map ptr ++ [ptr q]) := row_append (old := b.map ptr) (cs := [ptr q]) hg8.out (by simp) hlc (by simp; omega)
      rw [List.map_append]
      exact this
    have hp8 := hNcA.put_kids rfl hc8 hi8 (n := b.length + 1) (by simp)
    have he8 := heA.turn hsc7 hp8.2 hp8.1
    have hb8 := hbA.trans (heA.below hsc7 hp8.2)
    clear hp8 hi8 f1 f3 hc8 hg8 hsrc hgc hlc hNcA hNrA hbA heA hvA hcA ha1 ha2 ha3 hNc hNr he6 hb6
    generalize w8.setCell ⟨c + 1, 2, none⟩ (.slice (some ⟨c + 2, 0, none⟩) (b.length + 1) 32) = w9 at *
    have hsr9 := (Store.set_other (((σ.set c ⟨ci ++ [⟨ky, vya, vyn, vyc⟩], some b⟩).set n ⟨its.set i ⟨kz, vza, vzn, vzc⟩, some ks⟩).set r ⟨ri, some (q :: a)⟩) ⟨ci ++ [⟨ky, vya, vyn, vyc⟩], some (b ++ [q])⟩ (b := c) hcr.symm).trans hsr7
    have hNr := he8.rep r _ hsr9
    have ha2 : w9.cell? ⟨r + 1, 2, none⟩ = some (.slice (some ⟨r + 2, 0, none⟩) (a.length + 1) 32) := hNr.khdr
    have hrow9 : RowOf 30 32 w9 (r + 2) ([] ++ [ptr q] ++ a.map ptr) := hNr.kids _ rfl
    have HD := delete30 (r + 2) (a.length + 1) 0 _ _ _ w9 hrow9 (by omega) (by omega) rfl rfl (by simp) (ptrs_one _)
    rw [ecz] at HD
    go_wp2_with fail
    refine HD.mono ?_
    rintro e w10 ⟨rfl, hrow10, hc10⟩
    have f1 := hc10.cell ha2 (by simp)
    have f3 := hc10.free (hNr.free 2) hNr.lt (by simp)
    go_wp2_with fail
    have hp10 := hNr.put_kids (ks' := a) rfl hc10 (by rw [List.nil_append] at hrow10; exact hrow10) (n := a.length) rfl
    have he10 := he8.turn hsr9 hp10.2 hp10.1
    have hb10 := hb8.trans (he8.below hsr9 hp10.2)
    go_ret
    refine ⟨rfl, he10.eq (fun x => ?_), hb10⟩
    simp only [Store.set]
    by_cases e1 : x = r <;> by_cases e2 : x = n <;> by_cases e3 : x = c <;> simp [e1, e2, e3] <;> (subst_vars; simp_all)
end Go.Proofs.Qxb6603401a
