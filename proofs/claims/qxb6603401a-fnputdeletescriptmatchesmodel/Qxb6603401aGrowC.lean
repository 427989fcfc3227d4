import Derived.Test.Qxb6603401aGrowB
namespace Go.Proofs.Qxb6603401a
open Go Go.RowKit
set_option linter.unusedSimpArgs false
set_option linter.unusedVariables false

set_option maxHeartbeats 8000000 in
set_option maxRecDepth 100000 in
/-- AN ITEM FROM THE LEFT NEIGHBOUR. -/
theorem grow_left (F : Keep) (B tb n j c l : Nat) (its ci li : List It) (y z : It) (ks : List Nat) (ck lk ck' lk' : Option (List Nat)) (σ : Store) (w : World) (hg : Gen tb w) (ht : tb < B) (he : Env F B σ w) (hn : σ n = some ⟨its, some ks⟩) (hl : ks.length = its.length + 1) (hj : j < its.length)
    (hkl : ks[j]? = some l) (hkc : ks[j + 1]? = some c) (hsl : σ l = some ⟨li ++ [z], lk⟩) (hc : σ c = some ⟨ci, ck⟩) (hlc : l ≠ c) (hln : l ≠ n) (hcn : c ≠ n)
    (hk2 : (lk = none ∧ ck = none ∧ lk' = none ∧ ck' = none) ∨ ∃ a b q, lk = some (a ++ [q]) ∧ ck = some b ∧ lk' = some a ∧ ck' = some (q :: b) ∧ a.length = li.length + 1 ∧ b.length < 32) (hx : its[j]? = some y) (hc15 : ci.length ≤ 15) (hl15 : 15 ≤ li.length) :
    Calls Try.prog 51 #[.pointer (some ⟨tb, 0, none⟩), ptr n, .int .i64 (j + 1)] w fun e w' => e = .returned (ptr c) ∧
      Env F B (((σ.set n ⟨its.set j z, some ks⟩).set l ⟨li, lk'⟩).set c ⟨y :: ci, ck'⟩) w' ∧ Below B w w' := by
  obtain ⟨hi1, ekl⟩ := List.getElem?_eq_some_iff.1 hkl
  obtain ⟨hi2, ekc⟩ := List.getElem?_eq_some_iff.1 hkc
  have HM1 : Hid (∀ W, Gen tb W → Env F B σ W → Calls Try.prog 53 #[.pointer (some ⟨tb, 0, none⟩), ptr n, .int .i64 (j + 1)] W fun e w' => e = .returned (ptr c) ∧ Env F B σ w' ∧ Below B W w') := fun W hg he => by
    have := mutableChild_any F B tb n (j + 1) _ _ ks σ W hg he hn rfl hi2 (by rw [ekc]; exact hc)
    rw [ekc] at this
    exact this
  have HM2 : Hid (∀ W, Gen tb W → Env F B σ W → Calls Try.prog 53 #[.pointer (some ⟨tb, 0, none⟩), ptr n, .int .i64 j] W fun e w' => e = .returned (ptr l) ∧ Env F B σ w' ∧ Below B W w') := fun W hg he => by
    have := mutableChild_any F B tb n j _ _ ks σ W hg he hn rfl hi1 (by rw [ekl]; exact hsl)
    rw [ekl] at this
    exact this
  have hN := he.rep n _ hn
  have hC := he.rep c _ hc
  have hL := he.rep l _ hsl
  have h1 : w.cell? ⟨n + 1, 2, none⟩ = some (.slice (some ⟨n + 2, 0, none⟩) ks.length 32) := hN.khdr
  have h2 := hN.kid rfl hi1
  rw [ekl] at h2
  have h2' := hN.kid rfl hi2
  rw [ekc] at h2'
  have h3 : w.cell? ⟨c + 1, 1, none⟩ = some (.slice (some ⟨c, 0, none⟩) ci.length 31) := hC.hdr
  have h4 : w.cell? ⟨l + 1, 1, none⟩ = some (.slice (some ⟨l, 0, none⟩) (li.length + 1) 31) := by
    have := hL.hdr
    simp only [List.length_append, List.length_singleton] at this
    exact this
  have hlen := hN.klen rfl
  have z1 : (0 : Int) ≤ (j : Int) := Int.natCast_nonneg _
  have z2 : (j : Int) + 1 < (ks.length : Int) := by omega
  have z3 : (ci.length : Int) ≤ 15 := by omega
  have z4 : (15 : Int) ≤ (li.length : Int) := by omega
  have z5 : (j : Int) < (its.length : Int) := by omega
  have hlen2 : its.length ≤ 31 := hN.len
  have hlen3 : li.length + 1 ≤ 31 := by have := hL.len; simp at this; omega
  have HE : Hid (Gen tb w ∧ Env F B σ w) := ⟨hg, he⟩
  have HS : Hid (σ n = some ⟨its, some ks⟩ ∧ σ c = some ⟨ci, ck⟩ ∧ σ l = some ⟨li ++ [z], lk⟩) := ⟨hn, hc, hsl⟩
  have HL : Hid (ks.length = its.length + 1 ∧ its[j]? = some y) := ⟨hl, hx⟩
  have HK : Hid ((lk = none ∧ ck = none ∧ lk' = none ∧ ck' = none) ∨ ∃ a b q, lk = some (a ++ [q]) ∧ ck = some b ∧ lk' = some a ∧ ck' = some (q :: b) ∧ a.length = li.length + 1 ∧ b.length < 32) := hk2
  clear hN hC hL ekc ekl hkc hkl hg he hn hc hl hx hk2 hsl
  unfold ptr at *
  go_enter Try.func51, Try.ntmps51
  go_wp2_with fail
  refine (HM1.out _ HE.out.1 HE.out.2).mono ?_
  rintro e w1 ⟨rfl, he1, hb1⟩
  clear h1 h2 h2' h3 h4
  go_wp2_with fail
  refine (HM2.out _ (HE.out.1.later hb1 ht) he1).mono ?_
  rintro e w2 ⟨rfl, he2, hb2⟩
  have hb2 := hb1.trans hb2
  clear he1 hb1 HM1 HM2
  obtain ⟨ky, vya, vyn, vyc⟩ := y
  obtain ⟨kz, vza, vzn, vzc⟩ := z
  have hNc := he2.rep c _ HS.out.2.1
  have hNn := he2.rep n _ HS.out.1
  have hNl := he2.rep l _ HS.out.2.2
  have ha0 : w2.cell? ⟨l + 1, 1, none⟩ = some (.slice (some ⟨l, 0, none⟩) (li.length + 1) 31) := by
    have := hNl.hdr
    simp only [List.length_append, List.length_singleton] at this
    exact this
  have ha1 : w2.cell? ⟨c + 1, 1, none⟩ = some (.slice (some ⟨c, 0, none⟩) ci.length 31) := hNc.hdr
  have ha2 : w2.cell? ⟨n + 1, 1, none⟩ = some (.slice (some ⟨n, 0, none⟩) its.length 31) := hNn.hdr
  have hat := hNn.items.at hj
  have hxx : its[j] = ⟨ky, vya, vyn, vyc⟩ := by
    have := HL.out.2
    rw [List.getElem?_eq_getElem hj] at this; exact Option.some.inj this
  rw [hxx] at hat
  have HX : Hid (its[j] = ⟨ky, vya, vyn, vyc⟩) := hxx
  clear hxx
  go_wp2_with fail
  refine wp_region_T [0, 1, 2, 3, 4, 5, 6, 7, 8, 9, 10, 11, 12] [15, 16, 17] (fun W => (W.cell? ⟨c + 1, 1, none⟩ = some (.slice (some ⟨c, 0, none⟩) ci.length 31) ∧ W.cell? ⟨n + 1, 1, none⟩ = some (.slice (some ⟨n, 0, none⟩) its.length 31)) ∧ W.cell? ⟨n, j * 2, none⟩ = some (.string ky) ∧ W.cell? ⟨n, j * 2 + 1, none⟩ = some (.slice vya vyn vyc)) 5 (by kernel_rfl) (by kernel_rfl) ⟨⟨ha1, ha2⟩, hat⟩ ?_
  iterate 13 (apply wpTake_cons rfl rfl (by rfl); (next => intro W hW; have hW1 := hW.1.1; have hW2 := hW.1.2; have hW3 := hW.2.1; have hW4 := hW.2.2; clear hW; go_simp; first | done | with_reducible rfl | (go_bits; first | done | with_reducible rfl | (go_simp; first | done | with_reducible rfl))); simp only [List.setIfInBounds_toArray, List.set_cons_zero, List.set_cons_succ])
  refine wpTake_nil ?_
  refine wpAnyT_one (r := 13) (by kernel_rfl) rfl ?_
  intro K hK
  go_simp
  have hcA : Chg [] w2 (w2.alloc (.cells #[.string ky, .slice vya vyn vyc] 82)).drew := ((Chg.refl _ _).alloc _).drew
  have hvA : ((w2.alloc (.cells #[.string ky, .slice vya vyn vyc] 82)).drew).heap[w2.heap.size]? = some (.cells #[.string ky, .slice vya vyn vyc] 82 (0, 0)) := heap_alloc_new w2 _
  refine hK.out _ _ ⟨fun _ => ⟨⟨hcA.cell ha1 (by simp), hcA.cell ha2 (by simp)⟩, hcA.cell hat.1 (by simp), hcA.cell hat.2 (by simp)⟩, ?_⟩
  clear hK K
  generalize (w2.alloc (.cells #[.string ky, .slice vya vyn vyc] 82)).drew = wA at *
  have heA := he2.chg0 hcA
  have hbA := hb2.trans (below0 he2.size hcA)
  have hNcA := heA.rep c _ HS.out.2.1
  have hNnA := heA.rep n _ HS.out.1
  have hne1 : c ≠ n + 1 := hNcA.ne1 hNnA
  have hszc : w2.heap.size ≠ c := by have := hNc.lt; omega
  have hrowc : RowOf 82 62 wA c ([] ++ flat ci) := by have := hNcA.items; unfold Items at this; simpa using this
  have HI := insert82 c w2.heap.size ci.length 0 [] (flat [⟨ky, vya, vyn, vyc⟩]) (flat ci) wA hrowc (by omega) (by omega) rfl (by rw [flat_length]; rfl) (by rw [flat_length]; omega) hvA hszc (flat_one_cell _) (flat_one_cell _)
  refine wpAnyT_one (r := 14) (by kernel_rfl) rfl ?_
  intro K hK
  go_simp
  refine HI.mono ?_
  rintro e w3 ⟨rfl, hrow3, hc3⟩
  have f1 := hc3.cell (hcA.cell ha1 (by simp)) (by simp)
  have f3 : w3.frozen? ⟨c + 1, 1, none⟩ = false := hc3.free (hNcA.free 1) hNcA.lt (by simp)
  refine hK.out _ _ ⟨fun _ => ⟨⟨f1, hc3.cell (hcA.cell ha2 (by simp)) (by simp; omega)⟩, hc3.cell (hcA.cell hat.1 (by simp)) (by simp; omega), hc3.cell (hcA.cell hat.2 (by simp)) (by simp; omega)⟩, ?_⟩
  clear hK K
  refine wpAnyT_one (r := 15) (by kernel_rfl) rfl ?_
  intro K hK
  go_simp
  refine hK.out _ _ ⟨(fun h => by cases h), ?_⟩
  clear hK K
  refine wpAnyT_one (r := 16) (by kernel_rfl) rfl ?_
  intro K hK
  go_simp
  refine hK.out _ _ ⟨(fun h => by cases h), ?_⟩
  clear hK K
  refine wpAnyT_one (r := 17) (by kernel_rfl) rfl ?_
  intro K hK
  go_simp
  refine hK.out _ _ ⟨(fun h => by cases h), ?_⟩
  clear hK K
  refine wpAnyT_done (by kernel_rfl) ?_ _
  refine NoPanic.normal ?_
  have hi3 : Items w3 c (⟨ky, vya, vyn, vyc⟩ :: ci) := by
    unfold Items
    have := hrow3
    rw [List.nil_append, ← flat_append] at this
    exact this
  have hp3 := hNcA.put_items hc3 hi3 (n := ci.length + 1) (by simp)
  have he3 := heA.turn HS.out.2.1 hp3.2 hp3.1
  have hb3 := hbA.trans (heA.below HS.out.2.1 hp3.2)
  clear hp3 hi3 f1 f3 hc3 hrow3 HI hrowc hNcA hNnA hbA heA hvA hcA ha0 ha1 ha2 hat hNc hNn hNl he2 hb2 hszc
  generalize w3.setCell ⟨c + 1, 1, none⟩ (.slice (some ⟨c, 0, none⟩) (ci.length + 1) 31) = w4 at *
  go_wp2_with fail
  have hsn := (Store.set_other σ ⟨⟨ky, vya, vyn, vyc⟩ :: ci, ck⟩ (b := c) hcn.symm).trans HS.out.1
  have hsl := (Store.set_other σ ⟨⟨ky, vya, vyn, vyc⟩ :: ci, ck⟩ (b := c) hlc).trans HS.out.2.2
  have hNn := he3.rep n _ hsn
  have hNl := he3.rep l _ hsl
  have ha2 : w4.cell? ⟨n + 1, 1, none⟩ = some (.slice (some ⟨n, 0, none⟩) its.length 31) := hNn.hdr
  have ha0 : w4.cell? ⟨l + 1, 1, none⟩ = some (.slice (some ⟨l, 0, none⟩) (li.length + 1) 31) := by
    have := hNl.hdr
    simp only [List.length_append, List.length_singleton] at this
    exact this
  have hat : w4.cell? ⟨l, li.length * 2, none⟩ = some (.string kz) ∧ w4.cell? ⟨l, li.length * 2 + 1, none⟩ = some (.slice vza vzn vzc) := by
    have := hNl.items.at (i := li.length) (by simp)
    simp at this
    exact this
  have zl : (0 : Int) ≤ (li.length : Int) := by omega
  have zl2 : (li.length : Int) < (li.length : Int) + 1 := by omega
  have fa := hNn.items.frozen (j * 2)
  have fb := hNn.items.frozen (j * 2 + 1)
  have hob := hNn.items.at hj
  have hob1 := hob.1
  have hob2 := hob.2
  refine wp_region_T [0, 1, 2, 3, 4, 5, 6, 7, 8, 9, 10, 11, 12, 13] [14] (fun W => (W.cell? ⟨n + 1, 1, none⟩ = some (.slice (some ⟨n, 0, none⟩) its.length 31) ∧ W.cell? ⟨l + 1, 1, none⟩ = some (.slice (some ⟨l, 0, none⟩) (li.length + 1) 31)) ∧ W.cell? ⟨l, li.length * 2, none⟩ = some (.string kz) ∧ W.cell? ⟨l, li.length * 2 + 1, none⟩ = some (.slice vza vzn vzc)) 1 (by kernel_rfl) (by kernel_rfl) ⟨⟨ha2, ha0⟩, hat⟩ ?_
  iterate 14 (apply wpTake_cons rfl rfl (by rfl); (next => intro W hW; have hW1 := hW.1.1; have hW2 := hW.1.2; have hW3 := hW.2.1; have hW4 := hW.2.2; clear hW; go_simp; first | done | with_reducible rfl | (go_bits; first | done | with_reducible rfl | (go_simp; first | done | with_reducible rfl))); simp only [List.setIfInBounds_toArray, List.set_cons_zero, List.set_cons_succ])
  refine wpTake_nil ?_
  refine wpAnyT_one (r := 14) (by kernel_rfl) rfl ?_
  intro K hK
  go_simp
  refine hK.out _ _ ⟨(fun h => by cases h), ?_⟩
  clear hK K
  refine wpAnyT_done (by kernel_rfl) ?_ _
  refine NoPanic.normal ?_
  have hi5 := hNn.items.store hj ⟨kz, vza, vzn, vzc⟩
  have hc5 : Chg [n] w4 ((w4.setCell ⟨n, j * 2, none⟩ (.string kz)).setCell ⟨n, j * 2 + 1, none⟩ (.slice vza vzn vzc)).drew := (((Chg.refl _ _).setCell (.inl (by simp)) _).setCell (.inl (by simp)) _).drew
  have hp5 := hNn.set_items hc5 hi5 (by simp)
  have he5 := he3.turn hsn hp5.2 hp5.1
  have hb5 := hb3.trans (he3.below hsn hp5.2)
  clear hp5 hi5 hc5 hob hob1 hob2 fa fb ha2 ha0 hat hNn hNl he3 hb3
  generalize ((w4.setCell ⟨n, j * 2, none⟩ (.string kz)).setCell ⟨n, j * 2 + 1, none⟩ (.slice vza vzn vzc)).drew = w5 at *
  have hsl5 := (Store.set_other (σ.set c ⟨⟨ky, vya, vyn, vyc⟩ :: ci, ck⟩) ⟨its.set j ⟨kz, vza, vzn, vzc⟩, some ks⟩ (b := n) hln).trans hsl
  have hNl := he5.rep l _ hsl5
  have ha0 : w5.cell? ⟨l + 1, 1, none⟩ = some (.slice (some ⟨l, 0, none⟩) (li.length + 1) 31) := by
    have := hNl.hdr
    simp only [List.length_append, List.length_singleton] at this
    exact this
  have hrow5 : RowOf 82 62 w5 l (flat li ++ flat [⟨kz, vza, vzn, vzc⟩] ++ []) := by
    have := hNl.items
    unfold Items at this
    simp only at this
    rw [flat_append] at this
    simpa using this
  have HD := delete82 l (li.length + 1) li.length _ _ _ w5 hrow5 hlen3 (by omega) (by rw [flat_length]) (by rw [flat_length]; rfl) (by simp) (by simp)
  go_wp2_with fail
  refine HD.mono ?_
  rintro e w6 ⟨rfl, hrow6, hc6⟩
  have f1 := hc6.cell ha0 (by simp)
  have f3 := hc6.free (hNl.free 1) hNl.lt (by simp)
  have hNc := he5.rep c _ ((Store.set_other _ _ hcn).trans (Store.set_same _ _ _))
  have hne5 : l ≠ c + 1 := hNl.ne1 hNc
  have hn1 : l + 1 < w6.heap.size := World.block_lt_of_cell? w6 _ f1
  have hlc1 : l + 1 ≠ c + 1 := by omega
  rcases HK.out with ⟨rfl, rfl, rfl, rfl⟩ | ⟨a, b, q, rfl, rfl, rfl, rfl, hka, hkb⟩
  · have hn77 := notnil77
    have f4 : w6.cell? ⟨c + 1, 2, none⟩ = some (.slice none 0 0) := hc6.cell hNc.khdr (by simp; omega)
    go_wp2_with fail
    have hit6 : Items w6 l li := by
      unfold Items
      rw [List.append_nil] at hrow6
      exact hrow6
    have hp6 := hNl.put_items hc6 hit6 (n := li.length) rfl
    have he6 := he5.turn hsl5 hp6.2 hp6.1
    have hb6 := hb5.trans (he5.below hsl5 hp6.2)
    go_ret
    refine ⟨rfl, he6.eq (fun x => ?_), hb6⟩
    simp only [Store.set]
    by_cases e1 : x = l <;> by_cases e2 : x = n <;> by_cases e3 : x = c <;> simp [e1, e2, e3] <;> (subst_vars; simp_all)
  · have f4 : w6.cell? ⟨c + 1, 2, none⟩ = some (.slice (some ⟨c + 2, 0, none⟩) b.length 32) := hc6.cell hNc.khdr (by simp; omega)
    have hn77 := notnil77
    go_wp2_with fail
    have hit6 : Items w6 l li := by
      unfold Items
      rw [List.append_nil] at hrow6
      exact hrow6
    have hp6 := hNl.put_items hc6 hit6 (n := li.length) rfl
    have he6 := he5.turn hsl5 hp6.2 hp6.1
    have hb6 := hb5.trans (he5.below hsl5 hp6.2)
    clear hp6 hit6 f1 f3 f4 hc6 hrow6 HD hrow5 ha0 hNl hNc he5 hb5
    generalize w6.setCell ⟨l + 1, 1, none⟩ (.slice (some ⟨l, 0, none⟩) li.length 31) = w7 at *
    have hsl7 := Store.set_same ((σ.set c ⟨⟨ky, vya, vyn, vyc⟩ :: ci, some b⟩).set n ⟨its.set j ⟨kz, vza, vzn, vzc⟩, some ks⟩) l ⟨li, some (a ++ [q])⟩
    have hsc7 := (Store.set_other ((σ.set c ⟨⟨ky, vya, vyn, vyc⟩ :: ci, some b⟩).set n ⟨its.set j ⟨kz, vza, vzn, vzc⟩, some ks⟩) ⟨li, some (a ++ [q])⟩ (b := l) hlc.symm).trans ((Store.set_other (σ.set c ⟨⟨ky, vya, vyn, vyc⟩ :: ci, some b⟩) ⟨its.set j ⟨kz, vza, vzn, vzc⟩, some ks⟩ (b := n) hcn).trans (Store.set_same _ _ _))
    have hNl := he6.rep l _ hsl7
    have hNc := he6.rep c _ hsc7
    have ha1 : w7.cell? ⟨c + 1, 2, none⟩ = some (.slice (some ⟨c + 2, 0, none⟩) b.length 32) := hNc.khdr
    have ha2 : w7.cell? ⟨l + 1, 2, none⟩ = some (.slice (some ⟨l + 2, 0, none⟩) (li.length + 2) 32) := by
      have := hNl.khdr
      simp only [kidsVal, List.length_append, List.length_singleton, hka] at this
      exact this
    have ha3 : w7.cell? ⟨l + 2, li.length + 1, none⟩ = some (.pointer (some ⟨q + 1, 0, none⟩)) := by
      have := hNl.kid rfl (i := li.length + 1) (by simp [hka])
      simp [← hka] at this
      exact (by rw [← hka]; exact this)
    have zl3 : (0 : Int) ≤ (li.length : Int) + 1 := by omega
    have zl4 : (li.length : Int) + 1 < (li.length : Int) + 2 := by omega
    have HKA : Hid (a.length = li.length + 1) := hka
    clear hka
    refine wp_region_T [0, 1, 2, 3, 4, 5, 6, 7, 8, 9, 10, 11, 12] [15, 16, 17] (fun W => (W.cell? ⟨c + 1, 2, none⟩ = some (.slice (some ⟨c + 2, 0, none⟩) b.length 32) ∧ W.cell? ⟨l + 1, 2, none⟩ = some (.slice (some ⟨l + 2, 0, none⟩) (li.length + 2) 32)) ∧ W.cell? ⟨l + 2, li.length + 1, none⟩ = some (.pointer (some ⟨q + 1, 0, none⟩))) 5 (by kernel_rfl) (by kernel_rfl) ⟨⟨ha1, ha2⟩, ha3⟩ ?_
    iterate 13 (apply wpTake_cons rfl rfl (by rfl); (next => intro W hW; have hW1 := hW.1.1; have hW2 := hW.1.2; have hW3 := hW.2; clear hW; go_simp; first | done | with_reducible rfl | (go_bits; first | done | with_reducible rfl | (go_simp; first | done | with_reducible rfl))); simp only [List.setIfInBounds_toArray, List.set_cons_zero, List.set_cons_succ])
    refine wpTake_nil ?_
    refine wpAnyT_one (r := 13) (by kernel_rfl) rfl ?_
    intro K hK
    go_simp
    have hcA : Chg [] w7 (w7.alloc (.cells #[.pointer (some ⟨q + 1, 0, none⟩)] 30)).drew := ((Chg.refl _ _).alloc _).drew
    have hvA : ((w7.alloc (.cells #[.pointer (some ⟨q + 1, 0, none⟩)] 30)).drew).heap[w7.heap.size]? = some (.cells #[.pointer (some ⟨q + 1, 0, none⟩)] 30 (0, 0)) := heap_alloc_new w7 _
    refine hK.out _ _ ⟨fun _ => ⟨⟨hcA.cell ha1 (by simp), hcA.cell ha2 (by simp)⟩, hcA.cell ha3 (by simp)⟩, ?_⟩
    clear hK K
    generalize (w7.alloc (.cells #[.pointer (some ⟨q + 1, 0, none⟩)] 30)).drew = wA at *
    have heA := he6.chg0 hcA
    have hbA := hb6.trans (below0 he6.size hcA)
    have hNcA := heA.rep c _ hsc7
    have hNlA := heA.rep l _ hsl7
    have hne6 : l + 1 ≠ c + 2 := hNlA.ne3 hNcA rfl
    have hszc : w7.heap.size ≠ c + 2 := by have := (hNc.kids _ rfl).lt; omega
    have hrowc : RowOf 30 32 wA (c + 2) ([] ++ b.map ptr) := by have := hNcA.kids _ rfl; simpa using this
    have HI := insert30 (c + 2) w7.heap.size b.length 0 [] [ptr q] (b.map ptr) wA hrowc (by omega) (by omega) rfl rfl (by simp) hvA hszc (ptrs_one _) (by simp [ptr, Value.oneCell'])
    refine wpAnyT_one (r := 14) (by kernel_rfl) rfl ?_
    intro K hK
    go_simp
    refine HI.mono ?_
    rintro e w8 ⟨rfl, hrow8, hc8⟩
    have f1 := hc8.cell (hcA.cell ha1 (by simp)) (by simp)
    have f3 : w8.frozen? ⟨c + 1, 2, none⟩ = false := hc8.free (hNcA.free 2) hNcA.lt (by simp)
    refine hK.out _ _ ⟨fun _ => ⟨⟨f1, hc8.cell (hcA.cell ha2 (by simp)) (by simp; omega)⟩, hc8.cell (hcA.cell ha3 (by simp)) (by simp; omega)⟩, ?_⟩
    clear hK K
    refine wpAnyT_one (r := 15) (by kernel_rfl) rfl ?_
    intro K hK
    go_simp
    refine hK.out _ _ ⟨(fun h => by cases h), ?_⟩
    clear hK K
    refine wpAnyT_one (r := 16) (by kernel_rfl) rfl ?_
    intro K hK
    go_simp
    refine hK.out _ _ ⟨(fun h => by cases h), ?_⟩
    clear hK K
    refine wpAnyT_one (r := 17) (by kernel_rfl) rfl ?_
    intro K hK
    go_simp
    refine hK.out _ _ ⟨(fun h => by cases h), ?_⟩
    clear hK K
    refine wpAnyT_done (by kernel_rfl) ?_ _
    refine NoPanic.normal ?_
    have hi8 : RowOf 30 32 w8 (c + 2) ((q :: b).map ptr) := hrow8
    have hp8 := hNcA.put_kids rfl hc8 hi8 (n := b.length + 1) (by simp)
    have he8 := heA.turn hsc7 hp8.2 hp8.1
    have hb8 := hbA.trans (heA.below hsc7 hp8.2)
    clear hp8 hi8 f1 f3 hc8 hrow8 HI hrowc hNcA hNlA hbA heA hvA hcA ha1 ha2 ha3 hNc hNl he6 hb6 hszc
    generalize w8.setCell ⟨c + 1, 2, none⟩ (.slice (some ⟨c + 2, 0, none⟩) (b.length + 1) 32) = w9 at *
    have hsl9 := (Store.set_other (((σ.set c ⟨⟨ky, vya, vyn, vyc⟩ :: ci, some b⟩).set n ⟨its.set j ⟨kz, vza, vzn, vzc⟩, some ks⟩).set l ⟨li, some (a ++ [q])⟩) ⟨⟨ky, vya, vyn, vyc⟩ :: ci, some (q :: b)⟩ (b := c) hlc).trans hsl7
    have hNl := he8.rep l _ hsl9
    have hka := HKA.out
    have ha2 : w9.cell? ⟨l + 1, 2, none⟩ = some (.slice (some ⟨l + 2, 0, none⟩) (li.length + 2) 32) := by
      have := hNl.khdr
      simp only [kidsVal, List.length_append, List.length_singleton, hka] at this
      exact this
    have hrow9 : RowOf 30 32 w9 (l + 2) (a.map ptr ++ [ptr q] ++ []) := by
      have := hNl.kids _ rfl
      rw [List.map_append] at this
      simpa using this
    have HD := delete30 (l + 2) (li.length + 2) (li.length + 1) _ _ _ w9 hrow9 (by omega) (by omega) (by simp [hka]) rfl (by simp) (by simp)
    have ecast : (((li.length + 1 : Nat) : Int)) = (li.length : Int) + 1 := by omega
    rw [ecast] at HD
    have ecast2 : (li.length : Int) + 1 + 1 = (li.length : Int) + 2 := by omega
    rw [ecast2] at HD
    clear hka
    go_wp2_with fail
    refine HD.mono ?_
    rintro e w10 ⟨rfl, hrow10, hc10⟩
    have f1 := hc10.cell ha2 (by simp)
    have f3 := hc10.free (hNl.free 2) hNl.lt (by simp)
    go_wp2_with fail
    have hp10 := hNl.put_kids (ks' := a) rfl hc10 (by rw [List.append_nil] at hrow10; exact hrow10) (n := li.length + 2 - 1) (by have := HKA.out; omega)
    have he10 := he8.turn hsl9 hp10.2 hp10.1
    have hb10 := hb8.trans (he8.below hsl9 hp10.2)
    go_ret
    refine ⟨rfl, he10.eq (fun x => ?_), hb10⟩
    simp only [Store.set]
    by_cases e1 : x = l <;> by_cases e2 : x = n <;> by_cases e3 : x = c <;> simp [e1, e2, e3] <;> (subst_vars; simp_all)
end Go.Proofs.Qxb6603401a
