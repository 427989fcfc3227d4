import Derived.Test.Qxb6603401aFlat
namespace Go.Proofs.Qxb6603401a
open Go Go.RowKit
set_option linter.unusedSimpArgs false

theorem nil77 (w : World) (a : Option Addr) (n c n' c' : Nat) : (binOp .eql 77 (.slice a n c) (.slice none n' c')).run Try.prog w = .ok (.bool a.isNone) w := Lib.run_eql_slice_nil (P := Try.prog) w 77 30 a n c n' c' Try.underlying77
theorem notnil77 (w : World) (a : Option Addr) (n c n' c' : Nat) : (binOp .neq 77 (.slice a n c) (.slice none n' c')).run Try.prog w = .ok (.bool (!a.isNone)) w := run_neq_slice_nil_any (P := Try.prog) w 77 30 a n c n' c' Try.underlying77

/-- A row behind an append with room. -/
theorem row_append {w : World} {T tot b : Nat} {old sp cs : List Value} {off : Nat} (h : w.heap[b]? = some (.cells (splice (old ++ sp) off cs).toArray T (0, 0))) (hoff : off = old.length) (hl : (old ++ sp).length = tot) (hfit : old.length + cs.length ≤ tot) :
    RowOf T tot w b (old ++ cs) := by
  subst hoff
  have e : old ++ sp = old ++ sp.take cs.length ++ sp.drop cs.length := by rw [List.append_assoc, List.take_append_drop]
  refine ⟨sp.drop cs.length, ?_, ?_⟩
  · rw [e, splice_mid old _ cs _ (by simp at hl ⊢; omega)] at h
    exact h
  · simp at hl ⊢; omega
/-- A row whose tail has been cleared. -/
theorem row_clear {w : World} {T tot b : Nat} {A C sp Z : List Value} {off : Nat} (h : w.heap[b]? = some (.cells (splice (A ++ C ++ sp) off Z).toArray T (0, 0))) (hoff : off = A.length) (hZ : Z.length = C.length) (hl : (A ++ C ++ sp).length = tot) :
    RowOf T tot w b A := by
  subst hoff
  rw [splice_mid A C Z sp hZ.symm] at h
  refine ⟨Z ++ sp, by rw [← List.append_assoc]; exact h, ?_⟩
  simp at hl ⊢; omega

theorem setCell_heap {w : World} {b j : Nat} {c : Array Value} {T : TypeId} (h : w.heap[b]? = some (.cells c T (0, 0))) (v : Value) : (w.setCell ⟨b, j, none⟩ v).heap[b]? = some (.cells (c.setIfInBounds j v) T (0, 0)) := by
  rw [setCell_eq_setRow w b j c T (0, 0) v h, setRow_heap w b c _ T (0, 0) h]

theorem Store.set_set (σ : Store) (b : Nat) (x y : Nd) : (σ.set b x).set b y = σ.set b y := by
  funext z; unfold Store.set; split <;> rfl
theorem Store.set_comm (σ : Store) {a b : Nat} (h : a ≠ b) (x y : Nd) : (σ.set a x).set b y = (σ.set b y).set a x := by
  funext z; unfold Store.set
  by_cases h1 : z = a <;> by_cases h2 : z = b <;> simp [h1, h2]
  · subst h1; subst h2; exact absurd rfl h
  · subst h1; simp [h]
  · subst h2; intro h3; exact absurd h3.symm h
theorem NodeAt.blocks_lt {w : World} {b : Nat} {nd : Nd} (h : NodeAt w b nd) {x : Nat} (hx : x ∈ nd.blocks b) : x < w.heap.size := by
  obtain ⟨c, T, h1, _⟩ := h.types x hx
  exact (Array.getElem?_eq_some_iff.1 h1).1
/-- Blocks that no node has have turned. -/
theorem Env.aside {F : Keep} {B : Nat} {σ : Store} {w w' : World} (h : Env F B σ w) {S : List Nat} (hc : Chg S w w') (hS : ∀ b nd, σ b = some nd → ∀ x ∈ nd.blocks b, x ∉ S) (hF : ∀ b o, F b = some o → b ∉ S) : Env F B σ w' :=
  ⟨fun b nd hs => (h.rep b nd hs).chg hc (hS b nd hs), h.lo, Nat.le_trans h.size hc.size, fun b o hb => hc.heap (h.keep b o hb) (hF b o hb), h.other⟩

theorem flat_take_drop (its : List It) (k : Nat) : flat its = flat (its.take k) ++ flat (its.drop k) := by rw [← flat_append, List.take_append_drop]

set_option maxHeartbeats 2000000 in
set_option maxRecDepth 100000 in
theorem split_leaf (F : Keep) (B tb n : Nat) (its : List It) (σ : Store) (w : World) (hg : Gen tb w) (ht : tb < B) (he : Env F B σ w) (hn : σ n = some ⟨its, none⟩) (hl : its.length = 31) (x : It) (hx : its[15]? = some x) :
    Calls Try.prog 57 #[.pointer (some ⟨tb, 0, none⟩), ptr n] w fun e w' => ∃ m, e = .returned (.tuple #[.agg #[.string x.key, x.val], ptr m]) ∧ w.heap.size ≤ m ∧
      Env F B ((σ.set n ⟨its.take 15, none⟩).set m ⟨its.drop 16, none⟩) w' ∧ Below B w w' := by
  have hnil := nil77
  have hnnil := notnil77
  have hN := he.rep n _ hn
  have h1 := hN.hdr
  have h2 := hN.khdr
  simp only [kidsVal] at h2
  rw [hl] at h1
  have h15 : 15 < its.length := by omega
  have hit := hN.items.at h15
  rw [List.getElem?_eq_getElem h15] at hx
  obtain ⟨k, va, vn, vc⟩ := x
  have hx' : its[15] = ⟨k, va, vn, vc⟩ := Option.some.inj hx
  rw [hx'] at hit
  have h3 : w.cell? ⟨n, 30, none⟩ = some (.string k) := hit.1
  have h4 : w.cell? ⟨n, 31, none⟩ = some (.slice va vn vc) := hit.2
  have lt1 := hN.lt
  have lt0 : n < w.heap.size := by omega
  have hE : Hid (Env F B σ w) := he
  have HS : Hid (σ n = some ⟨its, none⟩ ∧ its.length = 31 ∧ Gen tb w) := ⟨hn, hl, hg⟩
  clear hit hx hx' hN hn hl hg he
  show Calls Try.prog 57 #[.pointer (some ⟨tb, 0, none⟩), .pointer (some ⟨n + 1, 0, none⟩)] w _
  go_enter Try.func57, Try.ntmps57
  go_wp2_with fail
  have hc0 : Chg [] w ((w.alloc (.cells #[.string ⟨#[]⟩, .slice none 0 0] 82)).alloc (.cells #[.string k, .slice va vn vc] 82)) := ((Chg.refl _ _).alloc _).alloc _
  have hz0 : ((w.alloc (.cells #[.string ⟨#[]⟩, .slice none 0 0] 82)).alloc (.cells #[.string k, .slice va vn vc] 82)).heap.size = w.heap.size + 2 := by simp
  have hm0 : ((w.alloc (.cells #[.string ⟨#[]⟩, .slice none 0 0] 82)).alloc (.cells #[.string k, .slice va vn vc] 82)).heap[w.heap.size]? = some (.cells #[.string ⟨#[]⟩, .slice none 0 0] 82 (0, 0)) := by
    rw [Below.heap_alloc _ _ _ (by simp)]; exact heap_alloc_new w _
  have hm1 : ((w.alloc (.cells #[.string ⟨#[]⟩, .slice none 0 0] 82)).alloc (.cells #[.string k, .slice va vn vc] 82)).heap[w.heap.size + 1]? = some (.cells #[.string k, .slice va vn vc] 82 (0, 0)) := by
    have := heap_alloc_new (w.alloc (.cells #[.string ⟨#[]⟩, .slice none 0 0] 82)) (.cells #[.string k, .slice va vn vc] 82)
    simpa using this
  generalize hW : ((w.alloc (.cells #[.string ⟨#[]⟩, .slice none 0 0] 82)).alloc (.cells #[.string k, .slice va vn vc] 82)) = W0 at *
  clear hW h1 h2 h3 h4
  refine (newNode_any tb true W0 (HS.out.2.2.later (below0 hE.out.size hc0) ht)).mono ?_
  rintro e w1 ⟨rfl, hN1, hc1⟩
  have he1 := ((hE.out.chg0 hc0).made hc1 (Nat.le_refl _) hN1)
  rw [hz0] at hN1 he1
  rw [hz0]
  have hm1' := hc1.heap hm1 (by simp)
  have hm0' := hc1.heap hm0 (by simp)
  have hb1 := (below0 hE.out.size hc0).trans (below0 (hE.out.chg0 hc0).size hc1)
  have hN0 := (he1.rep n _ ((Store.set_other _ _ (by omega)).trans HS.out.1))
  have h1 := hN0.hdr
  simp only [HS.out.2.1] at h1
  have h2 : w1.cell? ⟨w.heap.size + 2 + 1, 1, none⟩ = some (.slice (some ⟨w.heap.size + 2, 0, none⟩) 0 31) := hN1.hdr
  clear hm0 hm1 hc0 hc1 hz0 W0
  generalize hm : w.heap.size + 2 = m at *
  have HM : Hid (w.heap.size + 2 = m) := hm
  clear hm
  unfold ptr
  go_wp2_with fail
  refine wp_region_T [0, 1, 2, 3, 4, 5, 6, 7, 8, 9] [11, 12, 13] (fun W => W.cell? ⟨m + 1, 1, none⟩ = some (.slice (some ⟨m, 0, none⟩) 0 31) ∧ W.cell? ⟨n + 1, 1, none⟩ = some (.slice (some ⟨n, 0, none⟩) 31 31)) 4 (by kernel_rfl) (by kernel_rfl) ⟨h2, h1⟩ ?_
  iterate 10 (apply wpTake_cons rfl rfl (by rfl); (next => intro W hW; have hW1 := hW.1; have hW2 := hW.2; go_simp; first | done | with_reducible rfl); simp only [List.setIfInBounds_toArray, List.set_cons_zero, List.set_cons_succ])
  refine wpTake_nil ?_
  obtain ⟨spm, hgm, hlm⟩ : ∃ sp, w1.heap[m]? = some (.cells (flat [] ++ sp).toArray 82 (0, 0)) ∧ (flat [] ++ sp).length = 62 := hN1.items
  obtain ⟨spn, hgn, hln⟩ := hN0.items
  have hsrc : ∀ j v, (flat (its.drop 16))[j]? = some v → w1.cell? ((⟨n, 32, none⟩ : Addr).add j) = some v := src_at (L := flat (its.take 16)) (R := spn) (by rw [← flat_take_drop]; exact hgn) (by rw [flat_length]; simp [HS.out.2.1])
  have hfl : (flat (its.drop 16)).length = 15 * 2 := by rw [flat_length]; simp [HS.out.2.1]
  refine wpAnyT_one (r := 10) (by kernel_rfl) rfl ?_
  intro K hK
  refine step_append_k rfl _ _ _ rfl 82 2 Try.underlying76 info82 m 0 0 31 rfl _ 15 _ rfl (flat [] ++ spm) 82 (by exact hgm) (flat (its.drop 16)) hfl (fun _ => ⟨_, rfl, hsrc⟩) (by omega) (by rw [hlm]; omega) (flat_one_cell _) ?_
  intro w2 hg2 hc2
  have f1 := hc2.cell (p := ⟨m + 1, 1, none⟩) (by exact h2) (by simp)
  have f2 := hc2.cell (p := ⟨n + 1, 1, none⟩) (by exact h1) (by simp; have := HM.out; omega)
  refine hK.out _ _ ⟨fun _ => ⟨f1, f2⟩, ?_⟩
  clear hK K
  simp only [Act.put, List.setIfInBounds_toArray, List.set_cons_zero, List.set_cons_succ]
  refine wpAnyT_one (r := 11) (by kernel_rfl) rfl ?_
  intro K hK
  go_simp
  refine hK.out _ _ ⟨(fun h => by cases h), ?_⟩
  clear hK K
  refine wpAnyT_one (r := 12) (by kernel_rfl) rfl ?_
  intro K hK
  go_simp
  refine hK.out _ _ ⟨(fun h => by cases h), ?_⟩
  clear hK K
  have f3 : w2.frozen? ⟨m + 1, 1, none⟩ = false := hc2.of_drew.free (hN1.free 1) hN1.lt (by simp)
  refine wpAnyT_one (r := 13) (by kernel_rfl) rfl ?_
  intro K hK
  go_simp
  refine hK.out _ _ ⟨(fun h => by cases h), ?_⟩
  clear hK K
  refine wpAnyT_done (by kernel_rfl) ?_ _
  refine NoPanic.normal ?_
  have hi2 : Items w2 m (its.drop 16) := row_append (old := []) (cs := flat (its.drop 16)) hg2.out rfl hlm (by rw [hfl]; exact (by decide))
  have hp2 := hN1.put_items hc2.of_drew hi2 (n := 0 + 15) (by simp [HS.out.2.1])
  have he2 := he1.turn (Store.set_same _ _ _) hp2.2 hp2.1
  have hb2 := hb1.trans (he1.below (Store.set_same _ _ _) hp2.2)
  have hm1b := hp2.2.heap hm1' (by simp [Nd.blocks, newNd]; have := HM.out; omega)
  have hm0b := hp2.2.heap hm0' (by simp [Nd.blocks, newNd]; have := HM.out; omega)
  clear hp2 hi2 hg2 hc2 f1 f2 f3 hgm hlm hgn hln hsrc hfl he1 hb1 hm1' hm0' hN0 hN1 h1 h2
  generalize w2.setCell ⟨m + 1, 1, none⟩ (.slice (some ⟨m, 0, none⟩) (0 + 15) 31) = w3 at *
  have hN0 := (he2.rep n _ ((Store.set_other _ _ (by have := HM.out; omega)).trans ((Store.set_other _ _ (by have := HM.out; omega)).trans HS.out.1)))
  have h1 := hN0.hdr
  simp only [HS.out.2.1] at h1
  obtain ⟨spn, hgn, hln⟩ := hN0.items
  go_wp2_with (refine wpList_clear_k rfl _ _ rfl 82 2 Try.underlying76 _ zero82 rfl n 30 16 _ rfl (by omega) (flat its ++ spn) 82 hgn (by rw [hln]; omega) (by simp [Value.oneCell']) (by omega) ?_)
  intro w4 Z hZ hg4 hc4
  have hf1 := hc4.cell h1 (by simp)
  have hf2 := hc4.free (hN0.free 1) hN0.lt (by simp)
  have hf3 : w4.cell? ⟨n + 1, 2, none⟩ = some (.slice none 0 0) := hc4.cell hN0.khdr (by simp)
  have lt4 : n + 1 < w4.heap.size := Nat.lt_of_lt_of_le hN0.lt hc4.size
  have k0 := hc4.heap hm0b (by simp; have := HM.out; omega)
  have k1 := hc4.heap hm1b (by simp; have := HM.out; omega)
  have c1 : w4.cell? ⟨w.heap.size + 1, 0, none⟩ = some (.string k) := Lib.cell_of_heap k1 _
  have c2 : w4.cell? ⟨w.heap.size + 1, 1, none⟩ = some (.slice va vn vc) := Lib.cell_of_heap k1 _
  have c3 : w4.frozen? ⟨w.heap.size, 0, none⟩ = false := by simp [World.frozen?, k0]
  have c4 : w4.frozen? ⟨w.heap.size, 1, none⟩ = false := by simp [World.frozen?, k0]
  have c5 : w4.cell? ⟨w.heap.size, 0, none⟩ = some (.string ⟨#[]⟩) := Lib.cell_of_heap k0 _
  have c6 : w4.cell? ⟨w.heap.size, 1, none⟩ = some (.slice none 0 0) := Lib.cell_of_heap k0 _
  have lt5 : w.heap.size < w4.heap.size := World.block_lt_of_cell? w4 _ c5
  have ne1 : n + 1 ≠ w.heap.size := by omega
  have ne2 : w.heap.size ≠ n + 1 := by omega
  have ne3 : n + 1 ≠ w.heap.size + 1 := by omega
  have ne4 : w.heap.size + 1 ≠ n + 1 := by omega
  go_wp2_with fail
  have hi4 : Items w4 n (its.take 15) := row_clear (C := flat (its.drop 15)) (Z := Z) (by rw [← flat_take_drop]; exact hg4.out) (by rw [flat_length]; simp [HS.out.2.1]) (by rw [hZ, flat_length]; simp [HS.out.2.1]) (by rw [← flat_take_drop]; exact hln)
  have hp4 := hN0.put_items hc4 hi4 (n := 15) (by simp [HS.out.2.1])
  have hs4 := (Store.set_other (σ.set m (newNd true)) ⟨its.drop 16, none⟩ (b := m) (x := n) (by have := HM.out; omega)).trans ((Store.set_other σ (newNd true) (b := m) (x := n) (by have := HM.out; omega)).trans HS.out.1)
  have he4 := he2.turn hs4 hp4.2 hp4.1
  have hb4 := hb2.trans (he2.below hs4 hp4.2)
  have q0 := hp4.2.heap hm0b (by simp [Nd.blocks]; omega)
  clear hp4 c1 c2 c3 c4 c5 c6 k0 k1 hi4 hf1 hf2 hf3 hg4 hc4
  generalize w4.setCell ⟨n + 1, 1, none⟩ (.slice (some ⟨n, 0, none⟩) 15 31) = w5 at *
  have q1 := setCell_heap (j := 1) (setCell_heap (j := 0) q0 (.string k)) (.slice va vn vc)
  have hc6 : Chg [w.heap.size] w5 ((w5.setCell ⟨w.heap.size, 0, none⟩ (.string k)).setCell ⟨w.heap.size, 1, none⟩ (.slice va vn vc)) := ((Chg.refl _ _).setCell (.inl (by simp)) _).setCell (.inl (by simp)) _
  generalize ((w5.setCell ⟨w.heap.size, 0, none⟩ (.string k)).setCell ⟨w.heap.size, 1, none⟩ (.slice va vn vc)) = w6 at *
  have d0 : w6.cell? ⟨w.heap.size, 0, none⟩ = some (.string k) := (Lib.cell_of_heap q1 0).trans rfl
  have d1 : w6.cell? ⟨w.heap.size, 1, none⟩ = some (.slice va vn vc) := (Lib.cell_of_heap q1 1).trans rfl
  refine bodyPost_ret (v := .tuple #[.agg #[.string k, .slice va vn vc], ptr m]) (by simp [results, Try.results57, go_sem, ptr, d0, d1]; done) rfl ⟨m, rfl, by have := HM.out; omega, ?_, ?_⟩
  · rw [Store.set_set, Store.set_comm σ (by have := HM.out; omega)] at he4
    refine he4.aside hc6 (fun b nd hs x hx hx2 => ?_) (fun b o hb hb2 => by
      simp only [List.mem_singleton] at hb2
      subst hb2
      exact Nat.lt_irrefl _ (Array.getElem?_eq_some_iff.1 (hE.out.keep _ o hb)).1)
    simp only [List.mem_singleton] at hx2
    subst hx2
    by_cases e : b = m
    · subst e
      rw [Store.set_same] at hs
      cases hs
      simp [Nd.blocks, newNd] at hx
      have := HM.out
      omega
    · rw [Store.set_other _ _ e] at hs
      by_cases e2 : b = n
      · subst e2
        rw [Store.set_same] at hs
        cases hs
        simp [Nd.blocks] at hx
        omega
      · rw [Store.set_other _ _ e2] at hs
        exact Nat.lt_irrefl _ ((hE.out.rep b nd hs).blocks_lt hx)
  · exact hb4.trans (hc6.below he4.size (fun x hx => by simp only [List.mem_singleton] at hx; subst hx; exact hE.out.size))
end Go.Proofs.Qxb6603401a
