import Derived.Test.Qxb6603401aSplit
namespace Go.Proofs.Qxb6603401a
open Go Go.RowKit
set_option linter.unusedSimpArgs false

theorem ptrs_one (ks : List Nat) : ∀ v ∈ ks.map ptr, v.oneCell' = true := by
  intro v hv
  obtain ⟨k, _, rfl⟩ := List.mem_map.1 hv
  rfl

set_option maxHeartbeats 2000000 in
set_option maxRecDepth 100000 in
theorem split_inner (F : Keep) (B tb n : Nat) (its : List It) (ks : List Nat) (σ : Store) (w : World) (hg : Gen tb w) (ht : tb < B) (he : Env F B σ w) (hn : σ n = some ⟨its, some ks⟩) (hl : its.length = 31) (hkl : ks.length = 32) (x : It) (hx : its[15]? = some x) :
    Calls Try.prog 57 #[.pointer (some ⟨tb, 0, none⟩), ptr n] w fun e w' => ∃ m, e = .returned (.tuple #[.agg #[.string x.key, x.val], ptr m]) ∧ w.heap.size ≤ m ∧
      Env F B ((σ.set n ⟨its.take 15, some (ks.take 16)⟩).set m ⟨its.drop 16, some (ks.drop 16)⟩) w' ∧ Below B w w' := by
  have hnil := nil77
  have hnnil := notnil77
  have hN := he.rep n _ hn
  have h1 := hN.hdr
  have h2 := hN.khdr
  simp only [kidsVal, hkl] at h2
  rw [hl] at h1
  have h15 : 15 < its.length := by omega
  have hit := hN.items.at h15
  rw [List.getElem?_eq_getElem h15] at hx
  obtain ⟨k, va, vn, vc⟩ := x
  have hx' : its[15] = ⟨k, va, vn, vc⟩ := Option.some.inj hx
  rw [hx'] at hit
  have h3 : w.cell? ⟨n, 30, none⟩ = some (.string k) := hit.1
  have h4 : w.cell? ⟨n, 31, none⟩ = some (.slice va vn vc) := hit.2
  have lt1 := hN.lt
  have lt2 : n + 2 < w.heap.size := (hN.kids _ rfl).lt
  have lt0 : n < w.heap.size := by omega
  have hE : Hid (Env F B σ w) := he
  have HS : Hid (σ n = some ⟨its, some ks⟩ ∧ its.length = 31 ∧ Gen tb w) := ⟨hn, hl, hg⟩
  have HKL : Hid (ks.length = 32) := hkl
  clear hit hx hx' hN hn hl hg he hkl
  show Calls Try.prog 57 #[.pointer (some ⟨tb, 0, none⟩), .pointer (some ⟨n + 1, 0, none⟩)] w _
  go_enter Try.func57, Try.ntmps57
  go_wp2_with fail
  have hc0 : Chg [] w ((w.alloc (.cells #[.string ⟨#[]⟩, .slice none 0 0] 82)).alloc (.cells #[.string k, .slice va vn vc] 82)) := ((Chg.refl _ _).alloc _).alloc _
  have hz0 : ((w.alloc (.cells #[.string ⟨#[]⟩, .slice none 0 0] 82)).alloc (.cells #[.string k, .slice va vn vc] 82)).heap.size = w.heap.size + 2 := by simp
  have hm0 : ((w.alloc (.cells #[.string ⟨#[]⟩, .slice none 0 0] 82)).alloc (.cells #[.string k, .slice va vn vc] 82)).heap[w.heap.size]? = some (.cells #[.string ⟨#[]⟩, .slice none 0 0] 82 (0, 0)) := by
    rw [Below.heap_alloc _ _ _ (by simp)]; exact heap_alloc_new w _
  have hm1 : ((w.alloc (.cells #[.string ⟨#[]⟩, .slice none 0 0] 82)).alloc (.cells #[.string k, .slice va vn vc] 82)).heap[w.heap.size + 1]? = some (.cells #[.string k, .slice va vn vc] 82 (0, 0)) := by
    have := heap_alloc_new (w.alloc (.cells #[.string ⟨#[]⟩, .slice none 0 0] 82)) (.cells #[.string k, .slice va vn vc] 82)
    simpa using this
  generalize hW : ((w.alloc (.cells #[.string ⟨#[]⟩, .slice none 0 0] 82)).alloc (.cells #[.string k, .slice va vn vc] 82)) = W0 at *
  clear hW h1 h2 h3 h4
  refine (newNode_any tb false W0 (HS.out.2.2.later (below0 hE.out.size hc0) ht)).mono ?_
  rintro e w1 ⟨rfl, hN1, hc1⟩
  have he1 := ((hE.out.chg0 hc0).made hc1 (Nat.le_refl _) hN1)
  rw [hz0] at hN1 he1
  rw [hz0]
  have hm1' := hc1.heap hm1 (by simp)
  have hm0' := hc1.heap hm0 (by simp)
  have hb1 := (below0 hE.out.size hc0).trans (below0 (hE.out.chg0 hc0).size hc1)
  have hN0 := (he1.rep n _ ((Store.set_other _ _ (by omega)).trans HS.out.1))
  have h1 := hN0.hdr
  simp only [HS.out.2.1] at h1
  have h2 : w1.cell? ⟨w.heap.size + 2 + 1, 1, none⟩ = some (.slice (some ⟨w.heap.size + 2, 0, none⟩) 0 31) := hN1.hdr
  clear hm0 hm1 hc0 hc1 hz0 W0
  generalize hm : w.heap.size + 2 = m at *
  have HM : Hid (w.heap.size + 2 = m) := hm
  clear hm
  unfold ptr
  go_wp2_with fail
  refine wp_region_T [0, 1, 2, 3, 4, 5, 6, 7, 8, 9] [11, 12, 13] (fun W => W.cell? ⟨m + 1, 1, none⟩ = some (.slice (some ⟨m, 0, none⟩) 0 31) ∧ W.cell? ⟨n + 1, 1, none⟩ = some (.slice (some ⟨n, 0, none⟩) 31 31)) 4 (by kernel_rfl) (by kernel_rfl) ⟨h2, h1⟩ ?_
  iterate 10 (apply wpTake_cons rfl rfl (by rfl); (next => intro W hW; have hW1 := hW.1; have hW2 := hW.2; go_simp; first | done | with_reducible rfl); simp only [List.setIfInBounds_toArray, List.set_cons_zero, List.set_cons_succ])
  refine wpTake_nil ?_
  obtain ⟨spm, hgm, hlm⟩ : ∃ sp, w1.heap[m]? = some (.cells (flat [] ++ sp).toArray 82 (0, 0)) ∧ (flat [] ++ sp).length = 62 := hN1.items
  obtain ⟨spn, hgn, hln⟩ := hN0.items
  have hsrc : ∀ j v, (flat (its.drop 16))[j]? = some v → w1.cell? ((⟨n, 32, none⟩ : Addr).add j) = some v := src_at (L := flat (its.take 16)) (R := spn) (by rw [← flat_take_drop]; exact hgn) (by rw [flat_length]; simp [HS.out.2.1])
  have hfl : (flat (its.drop 16)).length = 15 * 2 := by rw [flat_length]; simp [HS.out.2.1]
  refine wpAnyT_one (r := 10) (by kernel_rfl) rfl ?_
  intro K hK
  refine step_append_k rfl _ _ _ rfl 82 2 Try.underlying76 info82 m 0 0 31 rfl _ 15 _ rfl (flat [] ++ spm) 82 (by exact hgm) (flat (its.drop 16)) hfl (fun _ => ⟨_, rfl, hsrc⟩) (by omega) (by rw [hlm]; omega) (flat_one_cell _) ?_
  intro w2 hg2 hc2
  have f1 := hc2.cell (p := ⟨m + 1, 1, none⟩) (by exact h2) (by simp)
  have f2 := hc2.cell (p := ⟨n + 1, 1, none⟩) (by exact h1) (by simp; have := HM.out; omega)
  refine hK.out _ _ ⟨fun _ => ⟨f1, f2⟩, ?_⟩
  clear hK K
  simp only [Act.put, List.setIfInBounds_toArray, List.set_cons_zero, List.set_cons_succ]
  refine wpAnyT_one (r := 11) (by kernel_rfl) rfl ?_
  intro K hK
  go_simp
  refine hK.out _ _ ⟨(fun h => by cases h), ?_⟩
  clear hK K
  refine wpAnyT_one (r := 12) (by kernel_rfl) rfl ?_
  intro K hK
  go_simp
  refine hK.out _ _ ⟨(fun h => by cases h), ?_⟩
  clear hK K
  have f3 : w2.frozen? ⟨m + 1, 1, none⟩ = false := hc2.of_drew.free (hN1.free 1) hN1.lt (by simp)
  refine wpAnyT_one (r := 13) (by kernel_rfl) rfl ?_
  intro K hK
  go_simp
  refine hK.out _ _ ⟨(fun h => by cases h), ?_⟩
  clear hK K
  refine wpAnyT_done (by kernel_rfl) ?_ _
  refine NoPanic.normal ?_
  have hi2 : Items w2 m (its.drop 16) := row_append (old := []) (cs := flat (its.drop 16)) hg2.out rfl hlm (by rw [hfl]; exact (by decide))
  have hp2 := hN1.put_items hc2.of_drew hi2 (n := 0 + 15) (by simp [HS.out.2.1])
  have he2 := he1.turn (Store.set_same _ _ _) hp2.2 hp2.1
  have hb2 := hb1.trans (he1.below (Store.set_same _ _ _) hp2.2)
  have hm1b := hp2.2.heap hm1' (by simp [Nd.blocks, newNd]; have := HM.out; omega)
  have hm0b := hp2.2.heap hm0' (by simp [Nd.blocks, newNd]; have := HM.out; omega)
  clear hp2 hi2 hg2 hc2 f1 f2 f3 hgm hlm hgn hln hsrc hfl he1 hb1 hm1' hm0' hN0 hN1 h1 h2
  generalize w2.setCell ⟨m + 1, 1, none⟩ (.slice (some ⟨m, 0, none⟩) (0 + 15) 31) = w3 at *
  have hN0 := (he2.rep n _ ((Store.set_other _ _ (by have := HM.out; omega)).trans ((Store.set_other _ _ (by have := HM.out; omega)).trans HS.out.1)))
  have h1 := hN0.hdr
  simp only [HS.out.2.1] at h1
  obtain ⟨spn, hgn, hln⟩ := hN0.items
  go_wp2_with (refine wpList_clear_k rfl _ _ rfl 82 2 Try.underlying76 _ zero82 rfl n 30 16 _ rfl (by omega) (flat its ++ spn) 82 hgn (by rw [hln]; omega) (by simp [Value.oneCell']) (by omega) ?_)
  intro w4 Z hZ hg4 hc4
  have hf1 := hc4.cell h1 (by simp)
  have hf2 := hc4.free (hN0.free 1) hN0.lt (by simp)
  have hf3 : w4.cell? ⟨n + 1, 2, none⟩ = some (.slice (some ⟨n + 2, 0, none⟩) 32 32) := by
    have := hc4.cell hN0.khdr (by simp)
    simp only [kidsVal, HKL.out] at this
    exact this
  have lt4 : n + 1 < w4.heap.size := Nat.lt_of_lt_of_le hN0.lt hc4.size
  go_wp2_with fail
  have hi4 : Items w4 n (its.take 15) := row_clear (C := flat (its.drop 15)) (Z := Z) (by rw [← flat_take_drop]; exact hg4.out) (by rw [flat_length]; simp [HS.out.2.1]) (by rw [hZ, flat_length]; simp [HS.out.2.1]) (by rw [← flat_take_drop]; exact hln)
  have hp4 := hN0.put_items hc4 hi4 (n := 15) (by simp [HS.out.2.1])
  have hs4 := (Store.set_other (σ.set m (newNd false)) ⟨its.drop 16, some []⟩ (b := m) (x := n) (by have := HM.out; omega)).trans ((Store.set_other σ (newNd false) (b := m) (x := n) (by have := HM.out; omega)).trans HS.out.1)
  have he4 := he2.turn hs4 hp4.2 hp4.1
  have hb4 := hb2.trans (he2.below hs4 hp4.2)
  have hm0c := hp4.2.heap hm0b (by simp [Nd.blocks]; omega)
  have hm1c := hp4.2.heap hm1b (by simp [Nd.blocks]; omega)
  clear hp4 hi4 hf1 hf2 hf3 hg4 hc4 hm0b hm1b hs4 hb2 he2 hN0 h1 hgn hln
  rw [Store.set_set, Store.set_comm σ (by have := HM.out; omega)] at he4
  generalize w4.setCell ⟨n + 1, 1, none⟩ (.slice (some ⟨n, 0, none⟩) 15 31) = w5 at *
  have hNm := he4.rep m _ (Store.set_same _ _ _)
  have hNn := he4.rep n _ ((Store.set_other _ _ (by have := HM.out; omega)).trans (Store.set_same _ _ _))
  have h1 : w5.cell? ⟨n + 1, 2, none⟩ = some (.slice (some ⟨n + 2, 0, none⟩) 32 32) := by
    have := hNn.khdr
    simp only [kidsVal, HKL.out] at this
    exact this
  have h2 : w5.cell? ⟨m + 1, 2, none⟩ = some (.slice (some ⟨m + 2, 0, none⟩) 0 32) := hNm.khdr
  refine wp_region_T [0, 1, 2, 3, 4, 5, 6, 7, 8, 9] [11, 12, 13] (fun W => W.cell? ⟨m + 1, 2, none⟩ = some (.slice (some ⟨m + 2, 0, none⟩) 0 32) ∧ W.cell? ⟨n + 1, 2, none⟩ = some (.slice (some ⟨n + 2, 0, none⟩) 32 32)) 4 (by kernel_rfl) (by kernel_rfl) ⟨h2, h1⟩ ?_
  iterate 10 (apply wpTake_cons rfl rfl (by rfl); (next => intro W hW; have hW1 := hW.1; have hW2 := hW.2; go_simp; first | done | with_reducible rfl); simp only [List.setIfInBounds_toArray, List.set_cons_zero, List.set_cons_succ])
  refine wpTake_nil ?_
  obtain ⟨spm, hgm, hlm⟩ : ∃ sp, w5.heap[m + 2]? = some (.cells (([] : List Nat).map ptr ++ sp).toArray 30 (0, 0)) ∧ (([] : List Nat).map ptr ++ sp).length = 32 := hNm.kids _ rfl
  obtain ⟨spn, hgn, hln⟩ := hNn.kids _ rfl
  have hsrc : ∀ j v, ((ks.drop 16).map ptr)[j]? = some v → w5.cell? ((⟨n + 2, 16, none⟩ : Addr).add j) = some v := src_at (L := (ks.take 16).map ptr) (R := spn) (by rw [← List.map_append, List.take_append_drop]; exact hgn) (by simp [HKL.out])
  have hfl : ((ks.drop 16).map ptr).length = 16 * 1 := by simp [HKL.out]
  refine wpAnyT_one (r := 10) (by kernel_rfl) rfl ?_
  intro K hK
  refine step_append_k rfl _ _ _ rfl 30 1 Try.underlying77 info30 (m + 2) 0 0 32 rfl _ 16 _ rfl (([] : List Nat).map ptr ++ spm) 30 (by exact hgm) ((ks.drop 16).map ptr) hfl (fun _ => ⟨_, rfl, hsrc⟩) (by omega) (by rw [hlm]; omega) (ptrs_one _) ?_
  intro w6 hg6 hc6
  have f1 := hc6.cell (p := ⟨m + 1, 2, none⟩) (by exact h2) (by simp)
  have f2 := hc6.cell (p := ⟨n + 1, 2, none⟩) (by exact h1) (by simp; have := HM.out; omega)
  refine hK.out _ _ ⟨fun _ => ⟨f1, f2⟩, ?_⟩
  clear hK K
  simp only [Act.put, List.setIfInBounds_toArray, List.set_cons_zero, List.set_cons_succ]
  refine wpAnyT_one (r := 11) (by kernel_rfl) rfl ?_
  intro K hK
  go_simp
  refine hK.out _ _ ⟨(fun h => by cases h), ?_⟩
  clear hK K
  refine wpAnyT_one (r := 12) (by kernel_rfl) rfl ?_
  intro K hK
  go_simp
  refine hK.out _ _ ⟨(fun h => by cases h), ?_⟩
  clear hK K
  have f3 : w6.frozen? ⟨m + 1, 2, none⟩ = false := hc6.of_drew.free (hNm.free 2) hNm.lt (by simp)
  refine wpAnyT_one (r := 13) (by kernel_rfl) rfl ?_
  intro K hK
  go_simp
  refine hK.out _ _ ⟨(fun h => by cases h), ?_⟩
  clear hK K
  refine wpAnyT_done (by kernel_rfl) ?_ _
  refine NoPanic.normal ?_
  have hi6 : RowOf 30 32 w6 (m + 2) ((ks.drop 16).map ptr) := row_append (old := []) (cs := (ks.drop 16).map ptr) hg6.out rfl hlm (by rw [hfl]; exact (by decide))
  have hp6 := hNm.put_kids rfl hc6.of_drew hi6 (n := 0 + 16) (by simp [HKL.out])
  have he6 := he4.turn (Store.set_same _ _ _) hp6.2 hp6.1
  have hb6 := hb4.trans (he4.below (Store.set_same _ _ _) hp6.2)
  have hm1d := hp6.2.heap hm1c (by simp [Nd.blocks, newNd]; have := HM.out; omega)
  have hm0d := hp6.2.heap hm0c (by simp [Nd.blocks, newNd]; have := HM.out; omega)
  clear hp6 hi6 hg6 hc6 f1 f2 f3 hgm hlm hgn hln hsrc hfl he4 hb4 hm1c hm0c hNn hNm h1 h2
  generalize w6.setCell ⟨m + 1, 2, none⟩ (.slice (some ⟨m + 2, 0, none⟩) (0 + 16) 32) = w7 at *
  rw [Store.set_set] at he6
  have hNn := he6.rep n _ ((Store.set_other _ _ (by have := HM.out; omega)).trans (Store.set_same _ _ _))
  have h1 : w7.cell? ⟨n + 1, 2, none⟩ = some (.slice (some ⟨n + 2, 0, none⟩) 32 32) := by
    have := hNn.khdr
    simp only [kidsVal, HKL.out] at this
    exact this
  obtain ⟨spn, hgn, hln⟩ := hNn.kids _ rfl
  go_wp2_with (refine wpList_clear_k rfl _ _ rfl 30 1 Try.underlying77 _ zero30 rfl (n + 2) 16 16 _ rfl (by omega) (ks.map ptr ++ spn) 30 hgn (by rw [hln]; omega) (by simp [Value.oneCell']) (by omega) ?_)
  intro w8 Z2 hZ2 hg8 hc8
  have hf1 := hc8.cell h1 (by simp)
  have hf2 := hc8.free (hNn.free 2) hNn.lt (by simp)
  have lt8 : n + 1 < w8.heap.size := Nat.lt_of_lt_of_le hNn.lt hc8.size
  have k0 := hc8.heap hm0d (by simp; omega)
  have k1 := hc8.heap hm1d (by simp; omega)
  have c1 : w8.cell? ⟨w.heap.size + 1, 0, none⟩ = some (.string k) := Lib.cell_of_heap k1 _
  have c2 : w8.cell? ⟨w.heap.size + 1, 1, none⟩ = some (.slice va vn vc) := Lib.cell_of_heap k1 _
  have c3 : w8.frozen? ⟨w.heap.size, 0, none⟩ = false := by simp [World.frozen?, k0]
  have c4 : w8.frozen? ⟨w.heap.size, 1, none⟩ = false := by simp [World.frozen?, k0]
  have c5 : w8.cell? ⟨w.heap.size, 0, none⟩ = some (.string ⟨#[]⟩) := Lib.cell_of_heap k0 _
  have c6 : w8.cell? ⟨w.heap.size, 1, none⟩ = some (.slice none 0 0) := Lib.cell_of_heap k0 _
  have lt5 : w.heap.size < w8.heap.size := World.block_lt_of_cell? w8 _ c5
  have ne1 : n + 1 ≠ w.heap.size := by omega
  have ne2 : w.heap.size ≠ n + 1 := by omega
  have ne3 : n + 1 ≠ w.heap.size + 1 := by omega
  have ne4 : w.heap.size + 1 ≠ n + 1 := by omega
  go_wp2_with fail
  have hi8 : RowOf 30 32 w8 (n + 2) ((ks.take 16).map ptr) := row_clear (C := (ks.drop 16).map ptr) (Z := Z2) (by rw [← List.map_append, List.take_append_drop]; exact hg8.out) (by simp [HKL.out]) (by rw [hZ2]; simp [HKL.out]) (by rw [← List.map_append, List.take_append_drop]; exact hln)
  have hp8 := hNn.put_kids rfl hc8 hi8 (n := 16) (by simp [HKL.out])
  have hs8 := (Store.set_other (σ.set n ⟨its.take 15, some ks⟩) ⟨its.drop 16, some (ks.drop 16)⟩ (b := m) (x := n) (by have := HM.out; omega)).trans (Store.set_same _ _ _)
  have he8 := he6.turn hs8 hp8.2 hp8.1
  have hb8 := hb6.trans (he6.below hs8 hp8.2)
  have q0 := hp8.2.heap hm0d (by simp [Nd.blocks]; omega)
  clear hp8 c1 c2 c3 c4 c5 c6 k0 k1 hi8 hf1 hf2 hg8 hc8
  generalize w8.setCell ⟨n + 1, 2, none⟩ (.slice (some ⟨n + 2, 0, none⟩) 16 32) = w9 at *
  have q1 := setCell_heap (j := 1) (setCell_heap (j := 0) q0 (.string k)) (.slice va vn vc)
  have hc6 : Chg [w.heap.size] w9 ((w9.setCell ⟨w.heap.size, 0, none⟩ (.string k)).setCell ⟨w.heap.size, 1, none⟩ (.slice va vn vc)) := ((Chg.refl _ _).setCell (.inl (by simp)) _).setCell (.inl (by simp)) _
  generalize ((w9.setCell ⟨w.heap.size, 0, none⟩ (.string k)).setCell ⟨w.heap.size, 1, none⟩ (.slice va vn vc)) = wx at *
  have d0 : wx.cell? ⟨w.heap.size, 0, none⟩ = some (.string k) := (Lib.cell_of_heap q1 0).trans rfl
  have d1 : wx.cell? ⟨w.heap.size, 1, none⟩ = some (.slice va vn vc) := (Lib.cell_of_heap q1 1).trans rfl
  refine bodyPost_ret (v := .tuple #[.agg #[.string k, .slice va vn vc], ptr m]) (by simp [results, Try.results57, go_sem, ptr, d0, d1]; done) rfl ⟨m, rfl, by have := HM.out; omega, ?_, ?_⟩
  · rw [Store.set_comm (σ.set n _) (by have := HM.out; omega), Store.set_set] at he8
    refine he8.aside hc6 (fun b nd hs x hx hx2 => ?_) (fun b o hb hb2 => by
      simp only [List.mem_singleton] at hb2
      subst hb2
      exact Nat.lt_irrefl _ (Array.getElem?_eq_some_iff.1 (hE.out.keep _ o hb)).1)
    simp only [List.mem_singleton] at hx2
    subst hx2
    by_cases e : b = m
    · subst e
      rw [Store.set_same] at hs
      cases hs
      simp [Nd.blocks, newNd] at hx
      have := HM.out
      omega
    · rw [Store.set_other _ _ e] at hs
      by_cases e2 : b = n
      · subst e2
        rw [Store.set_same] at hs
        cases hs
        simp [Nd.blocks] at hx
        omega
      · rw [Store.set_other _ _ e2] at hs
        exact Nat.lt_irrefl _ ((hE.out.rep b nd hs).blocks_lt hx)
  · exact hb8.trans (hc6.below he8.size (fun x hx => by simp only [List.mem_singleton] at hx; subst hx; exact hE.out.size))

/-- SPLIT OF A FULL NODE. -/
theorem split_any (F : Keep) (B tb n : Nat) (its : List It) (kids : Option (List Nat)) (σ : Store) (w : World) (hg : Gen tb w) (ht : tb < B) (he : Env F B σ w) (hn : σ n = some ⟨its, kids⟩) (hl : its.length = 31) (hk : ∀ ks, kids = some ks → ks.length = 32) (x : It) (hx : its[15]? = some x) :
    Calls Try.prog 57 #[.pointer (some ⟨tb, 0, none⟩), ptr n] w fun e w' => ∃ m, e = .returned (.tuple #[.agg #[.string x.key, x.val], ptr m]) ∧ w.heap.size ≤ m ∧
      Env F B ((σ.set n ⟨its.take 15, kids.map (List.take 16)⟩).set m ⟨its.drop 16, kids.map (List.drop 16)⟩) w' ∧ Below B w w' := by
  cases kids with
  | none => exact split_leaf F B tb n its σ w hg ht he hn hl x hx
  | some ks => exact split_inner F B tb n its ks σ w hg ht he hn hl (hk ks rfl) x hx
end Go.Proofs.Qxb6603401a
