import Derived.Test.Qxb6603401aSplitB
namespace Go.Proofs.Qxb6603401a
open Go Go.RowKit
set_option linter.unusedSimpArgs false

theorem NodeAt.ne1 {w : World} {b b' : Nat} {nd nd' : Nd} (h : NodeAt w b nd) (h' : NodeAt w b' nd') : b ≠ b' + 1 := by
  intro e
  obtain ⟨sp, hi, _⟩ := h.items
  rw [e, h'.head] at hi
  simp only [Option.some.injEq, Obj.cells.injEq] at hi
  exact absurd hi.2.1 (by decide)
theorem NodeAt.ne2 {w : World} {b b' : Nat} {nd nd' : Nd} (h : NodeAt w b nd) (h' : NodeAt w b' nd') {ks : List Nat} (hk : nd'.kids = some ks) : b ≠ b' + 2 := by
  intro e
  obtain ⟨sp, hi, _⟩ := h.items
  obtain ⟨sp', hi', _⟩ := h'.kids ks hk
  rw [e, hi'] at hi
  simp only [Option.some.injEq, Obj.cells.injEq] at hi
  exact absurd hi.2.1 (by decide)
theorem NodeAt.ne3 {w : World} {b b' : Nat} {nd nd' : Nd} (h : NodeAt w b nd) (h' : NodeAt w b' nd') {ks : List Nat} (hk : nd'.kids = some ks) : b + 1 ≠ b' + 2 := by
  intro e
  have hi := h.head
  obtain ⟨sp', hi', _⟩ := h'.kids ks hk
  rw [e, hi'] at hi
  simp only [Option.some.injEq, Obj.cells.injEq] at hi
  exact absurd hi.2.1 (by decide)

def appK : Option (List Nat) → Option (List Nat) → Option (List Nat)
  | some a, some b => some (a ++ b)
  | _, _ => none

theorem app77nil (w : World) (ty : TypeId) : (Builtin.append_ #[77, 77] ty #[.slice none 0 0, .slice none 0 0]).run Try.prog w = .ok (.slice none 0 0) w := by
  simp [Builtin.append_, go_sem]

theorem drop_at {α : Type} {l : List α} {i : Nat} {x : α} (h : l[i]? = some x) : l = l.take i ++ [x] ++ l.drop (i + 1) := by
  obtain ⟨hi, rfl⟩ := List.getElem?_eq_some_iff.1 h
  rw [List.append_assoc, List.singleton_append, List.getElem_cons_drop, List.take_append_drop]
theorem erase_at {α : Type} (l : List α) (i : Nat) : l.eraseIdx i = l.take i ++ l.drop (i + 1) := List.eraseIdx_eq_take_drop_succ l i
theorem row_one (ks : List Nat) : ∀ v ∈ ks.map ptr, v.oneCell' = true := ptrs_one ks

set_option maxHeartbeats 4000000 in
set_option maxRecDepth 100000 in
theorem merge_any (F : Keep) (B tb n i c r : Nat) (its ci ri : List It) (ks : List Nat) (ck rk : Option (List Nat)) (σ : Store) (w : World) (hg : Gen tb w) (ht : tb < B) (he : Env F B σ w) (hn : σ n = some ⟨its, some ks⟩) (hl : ks.length = its.length + 1) (hi : i < its.length)
    (hkc : ks[i]? = some c) (hkr : ks[i + 1]? = some r) (hc : σ c = some ⟨ci, ck⟩) (hr : σ r = some ⟨ri, rk⟩) (hcr : c ≠ r) (hcn : c ≠ n) (hrn : r ≠ n) (hll : ci.length + ri.length + 1 ≤ 31)
    (hk2 : (ck = none ∧ rk = none) ∨ ∃ a b, ck = some a ∧ rk = some b ∧ a.length + b.length ≤ 32) (x : It) (hx : its[i]? = some x) :
    Calls Try.prog 54 #[.pointer (some ⟨tb, 0, none⟩), ptr n, .int .i64 i] w fun e w' => e = .returned (ptr c) ∧
      Env F B ((σ.set c ⟨ci ++ [x] ++ ri, appK ck rk⟩).set n ⟨its.eraseIdx i, some (ks.eraseIdx (i + 1))⟩) w' ∧ Below B w w' := by
  have hN := he.rep n _ hn
  have hi1 : i < ks.length := by omega
  have hi2 : i + 1 < ks.length := by omega
  have ekc : ks[i] = c := by rw [List.getElem?_eq_getElem hi1] at hkc; exact Option.some.inj hkc
  have ekr : ks[i + 1] = r := by rw [List.getElem?_eq_getElem hi2] at hkr; exact Option.some.inj hkr
  have hlen := hN.klen rfl
  have z1 : (0 : Int) ≤ (i : Int) := Int.natCast_nonneg _
  have z2 : (i : Int) + 1 < (ks.length : Int) := by omega
  have z3 : (ks.length : Int) ≤ 32 := by omega
  have z4 : (0 : Int) ≤ (i : Int) + 1 := by omega
  have zw : IntKind.i64.wrap ((i : Int) + 1) = (i : Int) + 1 := IntWalk.i64_in _ (by omega)
  have zt : ((i : Int) + 1).toNat = i + 1 := by omega
  have hE : Hid (Env F B σ w) := he
  have HF : Hid (∀ W, Env F B σ W → W.cell? ⟨n + 1, 2, none⟩ = some (.slice (some ⟨n + 2, 0, none⟩) ks.length 32) ∧ W.cell? ⟨n + 2, i + 1, none⟩ = some (ptr r)) := fun W hW => by
    have hN := hW.rep n _ hn
    have h2 := hN.kid rfl hi2
    rw [ekr] at h2
    exact ⟨hN.khdr, h2⟩
  have HC : Hid (∀ W, Gen tb W → Env F B σ W → Calls Try.prog 53 #[.pointer (some ⟨tb, 0, none⟩), ptr n, .int .i64 i] W fun e w' => e = .returned (ptr c) ∧ Env F B σ w' ∧ Below B W w') := fun W hg he => by
    have := mutableChild_any F B tb n i _ _ ks σ W hg he hn rfl hi1 (by rw [ekc]; exact hc)
    rw [ekc] at this
    exact this
  have HS : Hid (σ n = some ⟨its, some ks⟩ ∧ σ c = some ⟨ci, ck⟩ ∧ σ r = some ⟨ri, rk⟩ ∧ c ≠ r ∧ c ≠ n ∧ r ≠ n ∧ Gen tb w) := ⟨hn, hc, hr, hcr, hcn, hrn, hg⟩
  have HL : Hid (ks.length = its.length + 1 ∧ i < its.length ∧ ci.length + ri.length + 1 ≤ 31 ∧ its[i]? = some x ∧ ((ck = none ∧ rk = none) ∨ ∃ a b, ck = some a ∧ rk = some b ∧ a.length + b.length ≤ 32)) := ⟨hl, hi, hll, hx, hk2⟩
  clear ekc ekr hkc hkr hN hg he hn hl hi hi1 hi2 hc hr hcr hcn hrn hll hx hk2 hlen
  show Calls Try.prog 54 #[.pointer (some ⟨tb, 0, none⟩), .pointer (some ⟨n + 1, 0, none⟩), .int .i64 i] w _
  go_enter Try.func54, Try.ntmps54
  go_wp2_with fail
  have hdr := drewN_chg w 1
  refine wp_region_T [0, 1, 2, 4, 5, 6, 7, 8, 9, 10, 11] [] (fun W => (W.cell? ⟨n + 1, 2, none⟩ = some (.slice (some ⟨n + 2, 0, none⟩) ks.length 32) ∧ W.cell? ⟨n + 2, i + 1, none⟩ = some (ptr r)) ∧ Env F B σ W ∧ Below B w W) 3 (by kernel_rfl) (by kernel_rfl) ⟨HF.out _ (hE.out.chg0 hdr), hE.out.chg0 hdr, below0 hE.out.size hdr⟩ ?_
  iterate 11 (apply wpTake_cons rfl rfl (by rfl); (next => intro W hW; have hW1 := hW.1.1; have hW2 := hW.1.2; clear hW; go_simp; first | done | with_reducible rfl); simp only [List.setIfInBounds_toArray, List.set_cons_zero, List.set_cons_succ])
  refine wpTake_nil ?_
  refine wpAnyT_one (r := 3) (by kernel_rfl) rfl ?_
  intro K hK
  go_simp
  refine (HC.out _ (HS.out.2.2.2.2.2.2.later (below0 hE.out.size hdr) ht) (hE.out.chg0 hdr)).mono ?_
  rintro e w1 ⟨rfl, he1, hb1⟩
  have hb1 := (below0 hE.out.size hdr).trans hb1
  refine hK.out _ _ ⟨fun _ => ⟨HF.out _ he1, he1, hb1⟩, ?_⟩
  clear hK K
  refine wpAnyT_more [12, 13] 0 (by kernel_rfl) ⟨HF.out _ he1, he1, hb1⟩ ?_
  iterate 2 (apply wpTake_cons rfl rfl (by rfl); (next => intro W hW; clear hW; go_simp; first | done | with_reducible rfl); simp only [List.setIfInBounds_toArray, List.set_cons_zero, List.set_cons_succ])
  refine wpTake_nil ?_
  refine wpAnyT_done (by kernel_rfl) ?_ _
  refine NoPanic.normal ?_
  clear hE HF HC hdr zw zt
  have hE : Hid (Env F B σ w1) := he1
  have hB : Hid (Below B w w1) := hb1
  clear he1 hb1
  obtain ⟨k, va, vn, vc⟩ := x
  have hNc := hE.out.rep c _ HS.out.2.1
  have hNn := hE.out.rep n _ HS.out.1
  have ha1 := hNc.hdr
  have ha2 := hNn.hdr
  have hil : i < its.length := HL.out.2.1
  have hat := hNn.items.at hil
  have hxx : its[i] = ⟨k, va, vn, vc⟩ := by
    have := HL.out.2.2.2.1
    rw [List.getElem?_eq_getElem hil] at this; exact Option.some.inj this
  rw [hxx] at hat
  have z5 : (i : Int) < (its.length : Int) := by omega
  have hil31 : its.length ≤ 31 := hNn.items.len
  have HX : Hid (its[i] = ⟨k, va, vn, vc⟩) := hxx
  clear hxx
  unfold ptr at *
  go_wp2_with fail
  refine wp_region_T [0, 1, 2, 3, 4, 5, 6, 7, 8, 9, 10, 11] [14, 15, 16] (fun W => (W.cell? ⟨c + 1, 1, none⟩ = some (.slice (some ⟨c, 0, none⟩) ci.length 31) ∧ W.cell? ⟨n + 1, 1, none⟩ = some (.slice (some ⟨n, 0, none⟩) its.length 31)) ∧ W.cell? ⟨n, i * 2, none⟩ = some (.string k) ∧ W.cell? ⟨n, i * 2 + 1, none⟩ = some (.slice va vn vc)) 5 (by kernel_rfl) (by kernel_rfl) ⟨⟨ha1, ha2⟩, hat⟩ ?_
  iterate 12 (apply wpTake_cons rfl rfl (by rfl); (next => intro W hW; have hW1 := hW.1.1; have hW2 := hW.1.2; have hW3 := hW.2.1; have hW4 := hW.2.2; clear hW; go_simp; first | done | with_reducible rfl | (go_bits; first | done | with_reducible rfl)); simp only [List.setIfInBounds_toArray, List.set_cons_zero, List.set_cons_succ])
  refine wpTake_nil ?_
  refine wpAnyT_one (r := 12) (by kernel_rfl) rfl ?_
  intro K hK
  go_simp
  have hcA : Chg [] w1 (w1.alloc (.cells #[.string k, .slice va vn vc] 82)).drew := ((Chg.refl _ _).alloc _).drew
  have hvA : ((w1.alloc (.cells #[.string k, .slice va vn vc] 82)).drew).heap[w1.heap.size]? = some (.cells #[.string k, .slice va vn vc] 82 (0, 0)) := heap_alloc_new w1 _
  have hszA : w1.heap.size < ((w1.alloc (.cells #[.string k, .slice va vn vc] 82)).drew).heap.size := (Array.getElem?_eq_some_iff.1 hvA).1
  refine hK.out _ _ ⟨fun _ => ⟨⟨hcA.cell ha1 (by simp), hcA.cell ha2 (by simp)⟩, hcA.cell hat.1 (by simp), hcA.cell hat.2 (by simp)⟩, ?_⟩
  clear hK K
  generalize (w1.alloc (.cells #[.string k, .slice va vn vc] 82)).drew = wA at *
  have heA := hE.out.chg0 hcA
  have hbA := hB.out.trans (below0 hE.out.size hcA)
  have hNcA := heA.rep c _ HS.out.2.1
  have hNnA := heA.rep n _ HS.out.1
  have hsrc : ∀ j v, ([Value.string k, Value.slice va vn vc])[j]? = some v → wA.cell? ((⟨w1.heap.size, 0, none⟩ : Addr).add j) = some v := src_at (L := []) (R := []) (by simpa using hvA) rfl
  obtain ⟨spc, hgc, hlc⟩ := hNcA.items
  have hfc := flat_length ci
  have hne1 : c ≠ n + 1 := hNcA.ne1 hNnA
  have hll := HL.out.2.2.1
  have hnc : c ≠ n := HS.out.2.2.2.2.1
  refine wpAnyT_one (r := 13) (by kernel_rfl) rfl ?_
  intro K hK
  refine step_append_k rfl _ _ _ rfl 82 2 Try.underlying76 info82 c 0 ci.length 31 rfl _ 1 _ rfl (flat ci ++ spc) 82 (by exact hgc) [.string k, .slice va vn vc] rfl (fun _ => ⟨_, rfl, hsrc⟩) (by omega) (by rw [hlc]; simp; omega) (by simp [Value.oneCell']) ?_
  intro w2 hg2 hc2
  have f1 := hc2.cell (hcA.cell ha1 (by simp)) (by simp)
  refine hK.out _ _ ⟨fun _ => ⟨⟨f1, hc2.cell (hcA.cell ha2 (by simp)) (by simp; omega)⟩, hc2.cell (hcA.cell hat.1 (by simp)) (by simp; omega), hc2.cell (hcA.cell hat.2 (by simp)) (by simp; omega)⟩, ?_⟩
  clear hK K
  simp only [Act.put, List.setIfInBounds_toArray, List.set_cons_zero, List.set_cons_succ]
  refine wpAnyT_one (r := 14) (by kernel_rfl) rfl ?_
  intro K hK
  go_simp
  refine hK.out _ _ ⟨(fun h => by cases h), ?_⟩
  clear hK K
  refine wpAnyT_one (r := 15) (by kernel_rfl) rfl ?_
  intro K hK
  go_simp
  refine hK.out _ _ ⟨(fun h => by cases h), ?_⟩
  clear hK K
  have f3 : w2.frozen? ⟨c + 1, 1, none⟩ = false := hc2.free (hNcA.free 1) hNcA.lt (by simp)
  refine wpAnyT_one (r := 16) (by kernel_rfl) rfl ?_
  intro K hK
  go_simp
  refine hK.out _ _ ⟨(fun h => by cases h), ?_⟩
  clear hK K
  refine wpAnyT_done (by kernel_rfl) ?_ _
  refine NoPanic.normal ?_
  have hi2 : Items w2 c (ci ++ [⟨k, va, vn, vc⟩]) := by
    have : RowOf 82 62 w2 c (flat ci ++ [.string k, .slice va vn vc]) := row_append (old := flat ci) (cs := [.string k, .slice va vn vc]) hg2.out (by rw [hfc]; omega) hlc (by rw [hfc]; simp; omega)
    unfold Items
    rw [flat_append, flat_one]
    exact this
  have hp2 := hNcA.put_items hc2 hi2 (n := ci.length + 1) (by simp)
  have he2 := heA.turn HS.out.2.1 hp2.2 hp2.1
  have hb2 := hbA.trans (heA.below HS.out.2.1 hp2.2)
  clear hp2 hi2 f1 f3 hg2 hc2 hsrc hgc hlc hNcA hNnA hbA heA hszA hvA hcA ha1 ha2 hat hNc hNn hE hB
  generalize w2.setCell ⟨c + 1, 1, none⟩ (.slice (some ⟨c, 0, none⟩) (ci.length + 1) 31) = w3 at *
  go_wp2_with fail
  have hcr : c ≠ r := HS.out.2.2.2.1
  have hcn : c ≠ n := HS.out.2.2.2.2.1
  have hrn : r ≠ n := HS.out.2.2.2.2.2.1
  have hNc := he2.rep c _ (Store.set_same _ _ _)
  have hNr := he2.rep r _ ((Store.set_other _ _ hcr.symm).trans HS.out.2.2.1)
  have ha1 : w3.cell? ⟨c + 1, 1, none⟩ = some (.slice (some ⟨c, 0, none⟩) (ci.length + 1) 31) := by
    have := hNc.hdr
    simp only [List.length_append, List.length_singleton] at this
    exact this
  have ha2 := hNr.hdr
  refine wp_region_T [0, 1, 2, 3, 4, 5, 6, 7, 8] [10, 11, 12] (fun W => W.cell? ⟨c + 1, 1, none⟩ = some (.slice (some ⟨c, 0, none⟩) (ci.length + 1) 31) ∧ W.cell? ⟨r + 1, 1, none⟩ = some (.slice (some ⟨r, 0, none⟩) ri.length 31)) 4 (by kernel_rfl) (by kernel_rfl) ⟨ha1, ha2⟩ ?_
  iterate 9 (apply wpTake_cons rfl rfl (by rfl); (next => intro W hW; have hW1 := hW.1; have hW2 := hW.2; clear hW; go_simp; first | done | with_reducible rfl | (go_bits; first | done | with_reducible rfl)); simp only [List.setIfInBounds_toArray, List.set_cons_zero, List.set_cons_succ])
  refine wpTake_nil ?_
  obtain ⟨spc, hgc, hlc⟩ := hNc.items
  obtain ⟨spr, hgr, hlr⟩ := hNr.items
  have hfr := flat_length ri
  have hfc1 : (flat (ci ++ [⟨k, va, vn, vc⟩])).length = (ci.length + 1) * 2 := by rw [flat_length]; simp
  have hsrc : ∀ j v, (flat ri)[j]? = some v → w3.cell? ((⟨r, 0, none⟩ : Addr).add j) = some v := src_at (L := []) (R := spr) (by simpa using hgr) rfl
  have hne2 : c ≠ r + 1 := hNc.ne1 hNr
  refine wpAnyT_one (r := 9) (by kernel_rfl) rfl ?_
  intro K hK
  refine step_append_k rfl _ _ _ rfl 82 2 Try.underlying76 info82 c 0 (ci.length + 1) 31 rfl _ ri.length _ rfl (flat (ci ++ [⟨k, va, vn, vc⟩]) ++ spc) 82 (by exact hgc) (flat ri) hfr (fun _ => ⟨_, rfl, hsrc⟩) (by omega) (by rw [hlc, hfr]; omega) (flat_one_cell _) ?_
  intro w4 hg4 hc4
  have f1 := hc4.cell (p := ⟨c + 1, 1, none⟩) (by exact ha1) (by simp)
  refine hK.out _ _ ⟨fun _ => ⟨f1, hc4.cell (p := ⟨r + 1, 1, none⟩) (by exact ha2) (by simp; omega)⟩, ?_⟩
  clear hK K
  simp only [Act.put, List.setIfInBounds_toArray, List.set_cons_zero, List.set_cons_succ]
  refine wpAnyT_one (r := 10) (by kernel_rfl) rfl ?_
  intro K hK
  go_simp
  refine hK.out _ _ ⟨(fun h => by cases h), ?_⟩
  clear hK K
  refine wpAnyT_one (r := 11) (by kernel_rfl) rfl ?_
  intro K hK
  go_simp
  refine hK.out _ _ ⟨(fun h => by cases h), ?_⟩
  clear hK K
  have f3 : w4.frozen? ⟨c + 1, 1, none⟩ = false := hc4.of_drew.free (hNc.free 1) hNc.lt (by simp)
  refine wpAnyT_one (r := 12) (by kernel_rfl) rfl ?_
  intro K hK
  go_simp
  refine hK.out _ _ ⟨(fun h => by cases h), ?_⟩
  clear hK K
  refine wpAnyT_done (by kernel_rfl) ?_ _
  refine NoPanic.normal ?_
  have hi4 : Items w4 c (ci ++ [⟨k, va, vn, vc⟩] ++ ri) := by
    have : RowOf 82 62 w4 c (flat (ci ++ [⟨k, va, vn, vc⟩]) ++ flat ri) := row_append (old := flat (ci ++ [⟨k, va, vn, vc⟩])) (cs := flat ri) hg4.out (by rw [hfc1]; omega) hlc (by rw [hfc1, hfr]; omega)
    unfold Items
    rw [flat_append]
    exact this
  have hp4 := hNc.put_items hc4.of_drew hi4 (n := ci.length + 1 + ri.length) (by simp; omega)
  have he4 := he2.turn (Store.set_same _ _ _) hp4.2 hp4.1
  have hb4 := hb2.trans (he2.below (Store.set_same _ _ _) hp4.2)
  rw [Store.set_set] at he4
  clear hp4 hi4 f1 f3 hg4 hc4 hsrc hgc hlc hgr hlr ha1 ha2 hNc hNr he2 hb2
  generalize w4.setCell ⟨c + 1, 1, none⟩ (.slice (some ⟨c, 0, none⟩) (ci.length + 1 + ri.length) 31) = w5 at *
  go_wp2_with fail
  have hNc := he4.rep c _ (Store.set_same _ _ _)
  have hNr := he4.rep r _ ((Store.set_other _ _ hcr.symm).trans HS.out.2.2.1)
  rcases HL.out.2.2.2.2 with ⟨rfl, rfl⟩ | ⟨ka, kb, rfl, rfl, hkl⟩
  · have ha1 : w5.cell? ⟨c + 1, 2, none⟩ = some (.slice none 0 0) := hNc.khdr
    have ha2 : w5.cell? ⟨r + 1, 2, none⟩ = some (.slice none 0 0) := hNr.khdr
    have hap := app77nil
    have f3 := hNc.free 2
    refine wp_region_T [0, 1, 2, 3, 4, 5, 6, 7, 8] [10, 11, 12] (fun W => W.cell? ⟨c + 1, 2, none⟩ = some (.slice none 0 0) ∧ W.cell? ⟨r + 1, 2, none⟩ = some (.slice none 0 0)) 4 (by kernel_rfl) (by kernel_rfl) ⟨ha1, ha2⟩ ?_
    iterate 9 (apply wpTake_cons rfl rfl (by rfl); (next => intro W hW; have hW1 := hW.1; have hW2 := hW.2; clear hW; go_simp; first | done | with_reducible rfl | (go_bits; first | done | with_reducible rfl)); simp only [List.setIfInBounds_toArray, List.set_cons_zero, List.set_cons_succ])
    refine wpTake_nil ?_
    refine wpAnyT_one (r := 9) (by kernel_rfl) rfl ?_
    intro K hK
    go_simp
    refine hK.out _ _ ⟨fun _ => ⟨ha1, ha2⟩, ?_⟩
    clear hK K
    refine wpAnyT_one (r := 10) (by kernel_rfl) rfl ?_
    intro K hK
    go_simp
    refine hK.out _ _ ⟨(fun h => by cases h), ?_⟩
    clear hK K
    refine wpAnyT_one (r := 11) (by kernel_rfl) rfl ?_
    intro K hK
    go_simp
    refine hK.out _ _ ⟨(fun h => by cases h), ?_⟩
    clear hK K
    refine wpAnyT_one (r := 12) (by kernel_rfl) rfl ?_
    intro K hK
    go_simp
    refine hK.out _ _ ⟨(fun h => by cases h), ?_⟩
    clear hK K
    refine wpAnyT_done (by kernel_rfl) ?_ _
    refine NoPanic.normal ?_
    have e5 : (w5.setCell ⟨c + 1, 2, none⟩ (.slice none 0 0)).drew = w5.drew := by rw [setCell_self _ _ _ _ ha1]
    have he6 := he4.chg0 ((Chg.refl [] w5).drew)
    have hb6 := hb4.trans (below0 he4.size ((Chg.refl [] w5).drew))
    rw [← e5] at he6 hb6
    generalize (w5.setCell ⟨c + 1, 2, none⟩ (.slice none 0 0)).drew = w7 at *
    clear e5 ha1 ha2 f3 hNc hNr he4 hb4
    have hs7 := (Store.set_other σ (⟨ci ++ [⟨k, va, vn, vc⟩] ++ ri, none⟩) hcn.symm).trans HS.out.1
    have hNn := he6.rep n _ hs7
    have hx7 := drop_at HL.out.2.2.2.1
    have hl7 := HL.out.1
    have hi7 : i < its.length := HL.out.2.1
    have hkd : Hid (ks.length = its.length + 1) := HL.out.1
    have ha1 : w7.cell? ⟨n + 1, 1, none⟩ = some (.slice (some ⟨n, 0, none⟩) its.length 31) := hNn.hdr
    have hrow7 : RowOf 82 62 w7 n (flat (its.take i) ++ flat [⟨k, va, vn, vc⟩] ++ flat (its.drop (i + 1))) := by
      have := hNn.items
      unfold Items at this
      simp only at this
      rw [hx7, flat_append, flat_append] at this
      exact this
    have HD := delete82 n its.length i _ _ _ w7 hrow7 hil31 hi7 (by rw [flat_length, List.length_take]; omega) (by rw [flat_length]; rfl) (by rw [flat_length, List.length_drop]; omega) (flat_one_cell _)
    have HX7 : Hid (its = its.take i ++ [⟨k, va, vn, vc⟩] ++ its.drop (i + 1)) := hx7
    have hi8 : i + 1 < ks.length := by omega
    have hNks := hNn.kids _ rfl
    clear hx7 hl7 hrow7
    go_wp2_with fail
    refine HD.mono ?_
    rintro e w8 ⟨rfl, hrow8, hc8⟩
    have f1 := hc8.cell ha1 (by simp)
    have f2 : w8.cell? ⟨n + 1, 2, none⟩ = some (.slice (some ⟨n + 2, 0, none⟩) ks.length 32) := hc8.cell hNn.khdr (by simp)
    have f3 := hc8.free (hNn.free 1) hNn.lt (by simp)
    have hn1 : n + 1 < w8.heap.size := World.block_lt_of_cell? w8 _ f1
    go_wp2_with fail
    have hit8 : Items w8 n (its.eraseIdx i) := by
      unfold Items
      rw [erase_at, flat_append]
      exact hrow8
    have hp8 := hNn.put_items hc8 hit8 (n := its.length - 1) (by rw [List.length_eraseIdx]; simp [hi7])
    have he8 := he6.turn hs7 hp8.2 hp8.1
    have hb8 := hb6.trans (he6.below hs7 hp8.2)
    clear hp8 hit8 hrow8 f1 f2 f3 hc8 HD hNn hNks ha1
    generalize w8.setCell ⟨n + 1, 1, none⟩ (.slice (some ⟨n, 0, none⟩) (its.length - 1) 31) = w9 at *
    have hNn := he8.rep n _ (Store.set_same _ _ _)
    have hk8 : ks[i + 1]? = some ks[i + 1] := List.getElem?_eq_getElem hi8
    have hrow9 : RowOf 30 32 w9 (n + 2) ((ks.take (i + 1)).map ptr ++ [ptr ks[i + 1]] ++ (ks.drop (i + 1 + 1)).map ptr) := by
      have := hNn.kids ks rfl
      rw [drop_at hk8, List.map_append, List.map_append] at this
      exact this
    have HD := delete30 (n + 2) ks.length (i + 1) _ _ _ w9 hrow9 (hNn.klen rfl) hi8 (by rw [List.length_map, List.length_take]; omega) rfl (by rw [List.length_map, List.length_drop]; omega) (ptrs_one _)
    have ecast : (((i + 1 : Nat) : Int)) = (i : Int) + 1 := by omega
    rw [ecast] at HD
    have ecast2 : (i : Int) + 1 + 1 = (i : Int) + 2 := by omega
    rw [ecast2] at HD
    refine HD.mono ?_
    rintro e w10 ⟨rfl, hrow10, hc10⟩
    have f1 : w10.cell? ⟨n + 1, 2, none⟩ = some (.slice (some ⟨n + 2, 0, none⟩) ks.length 32) := hc10.cell hNn.khdr (by simp)
    have f3 := hc10.free (hNn.free 2) hNn.lt (by simp)
    go_wp2_with fail
    have hp10 := hNn.put_kids (ks' := ks.eraseIdx (i + 1)) rfl hc10 (by rw [erase_at, List.map_append]; exact hrow10) (n := ks.length - 1) (by rw [List.length_eraseIdx]; simp [hi8])
    have he10 := he8.turn (Store.set_same _ _ _) hp10.2 hp10.1
    have hb10 := hb8.trans (he8.below (Store.set_same _ _ _) hp10.2)
    rw [Store.set_set] at he10
    go_ret
    refine ⟨rfl, ?_, hb10⟩
    exact he10
  · have ha1 : w5.cell? ⟨c + 1, 2, none⟩ = some (.slice (some ⟨c + 2, 0, none⟩) ka.length 32) := hNc.khdr
    have ha2 : w5.cell? ⟨r + 1, 2, none⟩ = some (.slice (some ⟨r + 2, 0, none⟩) kb.length 32) := hNr.khdr
    refine wp_region_T [0, 1, 2, 3, 4, 5, 6, 7, 8] [10, 11, 12] (fun W => W.cell? ⟨c + 1, 2, none⟩ = some (.slice (some ⟨c + 2, 0, none⟩) ka.length 32) ∧ W.cell? ⟨r + 1, 2, none⟩ = some (.slice (some ⟨r + 2, 0, none⟩) kb.length 32)) 4 (by kernel_rfl) (by kernel_rfl) ⟨ha1, ha2⟩ ?_
    iterate 9 (apply wpTake_cons rfl rfl (by rfl); (next => intro W hW; have hW1 := hW.1; have hW2 := hW.2; clear hW; go_simp; first | done | with_reducible rfl | (go_bits; first | done | with_reducible rfl)); simp only [List.setIfInBounds_toArray, List.set_cons_zero, List.set_cons_succ])
    refine wpTake_nil ?_
    obtain ⟨spc, hgc, hlc⟩ := hNc.kids _ rfl
    obtain ⟨spr, hgr, hlr⟩ := hNr.kids _ rfl
    have hsrc : ∀ j v, (kb.map ptr)[j]? = some v → w5.cell? ((⟨r + 2, 0, none⟩ : Addr).add j) = some v := src_at (L := []) (R := spr) (by simpa using hgr) rfl
    have hne2 : r + 1 ≠ c + 2 := hNr.ne3 hNc rfl
    refine wpAnyT_one (r := 9) (by kernel_rfl) rfl ?_
    intro K hK
    refine step_append_k rfl _ _ _ rfl 30 1 Try.underlying77 info30 (c + 2) 0 ka.length 32 rfl _ kb.length _ rfl (ka.map ptr ++ spc) 30 (by exact hgc) (kb.map ptr) (by simp) (fun _ => ⟨_, rfl, hsrc⟩) (by omega) (by rw [hlc, List.length_map]; omega) (ptrs_one _) ?_
    intro w6 hg6 hc6
    have f1 := hc6.cell (p := ⟨c + 1, 2, none⟩) (by exact ha1) (by simp)
    refine hK.out _ _ ⟨fun _ => ⟨f1, hc6.cell (p := ⟨r + 1, 2, none⟩) (by exact ha2) (by simp; omega)⟩, ?_⟩
    clear hK K
    simp only [Act.put, List.setIfInBounds_toArray, List.set_cons_zero, List.set_cons_succ]
    refine wpAnyT_one (r := 10) (by kernel_rfl) rfl ?_
    intro K hK
    go_simp
    refine hK.out _ _ ⟨(fun h => by cases h), ?_⟩
    clear hK K
    refine wpAnyT_one (r := 11) (by kernel_rfl) rfl ?_
    intro K hK
    go_simp
    refine hK.out _ _ ⟨(fun h => by cases h), ?_⟩
    clear hK K
    have f3 : w6.frozen? ⟨c + 1, 2, none⟩ = false := hc6.of_drew.free (hNc.free 2) hNc.lt (by simp)
    refine wpAnyT_one (r := 12) (by kernel_rfl) rfl ?_
    intro K hK
    go_simp
    refine hK.out _ _ ⟨(fun h => by cases h), ?_⟩
    clear hK K
    refine wpAnyT_done (by kernel_rfl) ?_ _
    refine NoPanic.normal ?_
    have hi6 : RowOf 30 32 w6 (c + 2) ((ka ++ kb).map ptr) := by
      have : RowOf 30 32 w6 (c + 2) (ka.map ptr ++ kb.map ptr) := row_append (old := ka.map ptr) (cs := kb.map ptr) hg6.out (by simp) hlc (by simp; omega)
      rw [List.map_append]
      exact this
    have hp6 := hNc.put_kids (ks' := ka ++ kb) rfl hc6.of_drew hi6 (n := ka.length + kb.length) (by simp)
    have he6 := he4.turn (Store.set_same _ _ _) hp6.2 hp6.1
    have hb6 := hb4.trans (he4.below (Store.set_same _ _ _) hp6.2)
    rw [Store.set_set] at he6
    clear hp6 hi6 f1 f3 hg6 hc6 hsrc hgc hlc hgr hlr ha1 ha2 hNc hNr he4 hb4
    generalize w6.setCell ⟨c + 1, 2, none⟩ (.slice (some ⟨c + 2, 0, none⟩) (ka.length + kb.length) 32) = w7 at *
    have hs7 := (Store.set_other σ (⟨ci ++ [⟨k, va, vn, vc⟩] ++ ri, some (ka ++ kb)⟩) hcn.symm).trans HS.out.1
    have hNn := he6.rep n _ hs7
    have hx7 := drop_at HL.out.2.2.2.1
    have hl7 := HL.out.1
    have hi7 : i < its.length := HL.out.2.1
    have hkd : Hid (ks.length = its.length + 1) := HL.out.1
    have ha1 : w7.cell? ⟨n + 1, 1, none⟩ = some (.slice (some ⟨n, 0, none⟩) its.length 31) := hNn.hdr
    have hrow7 : RowOf 82 62 w7 n (flat (its.take i) ++ flat [⟨k, va, vn, vc⟩] ++ flat (its.drop (i + 1))) := by
      have := hNn.items
      unfold Items at this
      simp only at this
      rw [hx7, flat_append, flat_append] at this
      exact this
    have HD := delete82 n its.length i _ _ _ w7 hrow7 hil31 hi7 (by rw [flat_length, List.length_take]; omega) (by rw [flat_length]; rfl) (by rw [flat_length, List.length_drop]; omega) (flat_one_cell _)
    have HX7 : Hid (its = its.take i ++ [⟨k, va, vn, vc⟩] ++ its.drop (i + 1)) := hx7
    have hi8 : i + 1 < ks.length := by omega
    have hNks := hNn.kids _ rfl
    clear hx7 hl7 hrow7
    go_wp2_with fail
    refine HD.mono ?_
    rintro e w8 ⟨rfl, hrow8, hc8⟩
    have f1 := hc8.cell ha1 (by simp)
    have f2 : w8.cell? ⟨n + 1, 2, none⟩ = some (.slice (some ⟨n + 2, 0, none⟩) ks.length 32) := hc8.cell hNn.khdr (by simp)
    have f3 := hc8.free (hNn.free 1) hNn.lt (by simp)
    have hn1 : n + 1 < w8.heap.size := World.block_lt_of_cell? w8 _ f1
    go_wp2_with fail
    have hit8 : Items w8 n (its.eraseIdx i) := by
      unfold Items
      rw [erase_at, flat_append]
      exact hrow8
    have hp8 := hNn.put_items hc8 hit8 (n := its.length - 1) (by rw [List.length_eraseIdx]; simp [hi7])
    have he8 := he6.turn hs7 hp8.2 hp8.1
    have hb8 := hb6.trans (he6.below hs7 hp8.2)
    clear hp8 hit8 hrow8 f1 f2 f3 hc8 HD hNn hNks ha1
    generalize w8.setCell ⟨n + 1, 1, none⟩ (.slice (some ⟨n, 0, none⟩) (its.length - 1) 31) = w9 at *
    have hNn := he8.rep n _ (Store.set_same _ _ _)
    have hk8 : ks[i + 1]? = some ks[i + 1] := List.getElem?_eq_getElem hi8
    have hrow9 : RowOf 30 32 w9 (n + 2) ((ks.take (i + 1)).map ptr ++ [ptr ks[i + 1]] ++ (ks.drop (i + 1 + 1)).map ptr) := by
      have := hNn.kids ks rfl
      rw [drop_at hk8, List.map_append, List.map_append] at this
      exact this
    have HD := delete30 (n + 2) ks.length (i + 1) _ _ _ w9 hrow9 (hNn.klen rfl) hi8 (by rw [List.length_map, List.length_take]; omega) rfl (by rw [List.length_map, List.length_drop]; omega) (ptrs_one _)
    have ecast : (((i + 1 : Nat) : Int)) = (i : Int) + 1 := by omega
    rw [ecast] at HD
    have ecast2 : (i : Int) + 1 + 1 = (i : Int) + 2 := by omega
    rw [ecast2] at HD
    refine HD.mono ?_
    rintro e w10 ⟨rfl, hrow10, hc10⟩
    have f1 : w10.cell? ⟨n + 1, 2, none⟩ = some (.slice (some ⟨n + 2, 0, none⟩) ks.length 32) := hc10.cell hNn.khdr (by simp)
    have f3 := hc10.free (hNn.free 2) hNn.lt (by simp)
    go_wp2_with fail
    have hp10 := hNn.put_kids (ks' := ks.eraseIdx (i + 1)) rfl hc10 (by rw [erase_at, List.map_append]; exact hrow10) (n := ks.length - 1) (by rw [List.length_eraseIdx]; simp [hi8])
    have he10 := he8.turn (Store.set_same _ _ _) hp10.2 hp10.1
    have hb10 := hb8.trans (he8.below (Store.set_same _ _ _) hp10.2)
    rw [Store.set_set] at he10
    go_ret
    refine ⟨rfl, ?_, hb10⟩
    exact he10
end Go.Proofs.Qxb6603401a
