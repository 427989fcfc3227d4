import Derived.Test.Qxb6603401aWand
namespace Go.Proofs.Qxb6603401a
open Go Go.RowKit
set_option linter.unusedSimpArgs false
set_option linter.unusedVariables false

/-- A tree, its root r, in memory; the Tree's own block holds 'root0'. -/
def Open (F : Keep) (tb : Nat) (w0 : World) (es : List It) (N r : Nat) (root0 : Value) (wc : World) : Prop :=
  ∃ (d : Nat) (t : Tr d) (σ : Store), t.root = r ∧ wc.heap[tb]? = some (.cells #[root0, .int .u64 0, .int .i64 (sizeL es : Nat)] 33 (0, 0)) ∧ Env F (tb + 1) σ wc ∧ Has σ t ∧ t.Ok 0 ∧ (d = 0 ∨ 1 ≤ t.its.length) ∧ t.ents = es ∧ Below tb w0 wc ∧ t.its.length ≤ N

/-- The Tree's own block has turned. -/
theorem Env.tree {F : Keep} {tb : Nat} {σ : Store} {w w' : World} (h : Env F (tb + 1) σ w) (hf : F tb = none) (hc : Chg [tb] w w') : Env F (tb + 1) σ w' :=
  h.aside hc (fun b nd hs x hx hx2 => by
    have := h.lo b nd hs
    simp only [List.mem_singleton] at hx2
    subst hx2
    unfold Nd.blocks at hx
    split at hx <;> simp only [List.mem_cons, List.not_mem_nil, or_false] at hx <;> omega) (fun b o hb hb2 => by
    simp only [List.mem_singleton] at hb2
    subst hb2
    rw [hf] at hb; cases hb)
theorem below_tb {tb : Nat} {w w' : World} (hs : tb < w.heap.size) (hc : Chg [tb] w w') : Below tb w w' := hc.below (Nat.le_of_lt hs) (fun x hx => by simp only [List.mem_singleton] at hx; omega)

theorem binNil30 (w : World) (a : Option Addr) : (binOp .eql 30 (.pointer a) (.pointer none)).run Try.prog w = .ok (.bool a.isNone) w := by
  cases a <;> simp [go_sem]

set_option maxHeartbeats 8000000 in
set_option maxRecDepth 100000 in
theorem put_tree (F : Keep) (tb : Nat) (key : ByteArray) (va : Option Addr) (vn vc : Nat) (w : World) (es : List It) (h : TreeAt F tb w es) (hb : sizeL es + key.size + vn < 4611686018427387904) :
    Calls Try.prog 27 #[.pointer (some ⟨tb, 0, none⟩), .string key, .slice va vn vc] w fun e w' => e = .returned (.tuple #[]) ∧ TreeAt F tb w' (putL ⟨key, va, vn, vc⟩ es) ∧ Below tb w w' := by
  obtain ⟨root, h1, h2⟩ := h.is
  have hs := h.sorted
  have hfr := h.free
  have htl : tb < w.heap.size := (Array.getElem?_eq_some_iff.1 h1).1
  have HB : Hid (Sorted es ∧ F tb = none ∧ sizeL es + key.size + vn < 4611686018427387904) := ⟨hs, hfr, hb⟩
  have hc0 : w.cell? ⟨tb, 0, none⟩ = some root := (Lib.cell_of_heap h1 0).trans rfl
  have hgen : Gen tb w := (Lib.cell_of_heap h1 1).trans rfl
  have hz := binNil30
  clear h hs hfr hb
  obtain ⟨ra, rfl⟩ : ∃ ra, root = .pointer ra := by
    rcases h2 with ⟨rfl, _⟩ | ⟨d, t, σ, rfl, _⟩
    · exact ⟨none, rfl⟩
    · exact ⟨_, rfl⟩
  have H2 : Hid ((Value.pointer ra = .pointer none ∧ es = [] ∧ Env F (tb + 1) (fun _ => none) w) ∨ ∃ (d : Nat) (t : Tr d) (σ : Store), Value.pointer ra = ptr t.root ∧ Env F (tb + 1) σ w ∧ Has σ t ∧ t.Ok 1 ∧ t.ents = es) := h2
  have H1 : Hid (w.heap[tb]? = some (.cells #[.pointer ra, .int .u64 0, .int .i64 (sizeL es : Nat)] 33 (0, 0))) := h1
  clear h1 h2
  go_enter Try.func27, Try.ntmps27
  go_upto_if 19 with fail
  go_cut [] (fun wc => ∃ r, Open F tb w es 31 r (ptr r) wc)
  case first =>
    rcases H2.out with ⟨hra, rfl, he⟩ | ⟨d, t, σ, hra, he, hh, hok, hen⟩
    · cases hra
      have HN := newNode_any tb true w hgen
      go_wp2_with fail
      refine HN.mono ?_
      rintro e w1 ⟨rfl, hN1, hc1⟩
      have hh1 := hc1.heap H1.out (by simp)
      have g0 : w1.cell? ⟨tb, 0, none⟩ = some (.pointer none) := (Lib.cell_of_heap hh1 0).trans rfl
      have g1 : w1.frozen? ⟨tb, 0, none⟩ = false := by simp [World.frozen?, hh1]
      have htl1 : tb < w1.heap.size := Nat.lt_of_lt_of_le htl hc1.size
      unfold ptr
      go_wp2_with fail
      go_meet
      have he1 := he.made hc1 (Nat.le_refl _) hN1
      have hct : Chg [tb] w1 (w1.setCell ⟨tb, 0, none⟩ (ptr w.heap.size)) := (Chg.refl _ _).setCell (.inl (by simp)) _
      refine ⟨w.heap.size, 0, leaf w.heap.size [], _, rfl, setCell_heap hh1 _, he1.tree HB.out.2.1 hct, ⟨Store.set_same _ _ _, ?_⟩, ⟨?_, ?_⟩, .inl rfl, rfl, (below0 (Nat.le_of_lt htl) hc1).trans (below_tb htl1 hct), by show ([] : List It).length ≤ 31; simp⟩
      · show [w.heap.size].Nodup; simp
      · show 0 ≤ ([] : List It).length; simp
      · show ([] : List It).length ≤ 31; simp
    · have hra' : ra = some ⟨t.root + 1, 0, none⟩ := by unfold ptr at hra; exact Value.pointer.inj hra
      subst hra'
      go_wp2_with fail
      go_meet
      refine ⟨t.root, d, t, σ, rfl, H1.out, he, hh, t.ok_mono hok (Nat.zero_le _), .inr (t.ok_len hok).1, hen, Below.refl _ _, (t.ok_len hok).2⟩
  case rest =>
  obtain ⟨r, d, t, σ, hr, hh1, he, hh, hok, hd, hen, hbw, _⟩ := hcut
  clear H1 H2 hc0 hgen
  have htl1 : tb < wc.heap.size := (Array.getElem?_eq_some_iff.1 hh1).1
  have hc0 : wc.cell? ⟨tb, 0, none⟩ = some (ptr r) := (Lib.cell_of_heap hh1 0).trans rfl
  have hgen : Gen tb wc := (Lib.cell_of_heap hh1 1).trans rfl
  have hN := he.rep _ _ hh.here.in_root
  rw [hr] at hN
  have HM := mutable_any tb r _ wc hgen hN
  have hl31 := (t.ok_len hok).2
  have h3 : ∀ q, (wc.drewN q).cell? ⟨r + 1, 1, none⟩ = some (.slice (some ⟨r, 0, none⟩) t.its.length 31) := fun q => by
    have := (drewN_chg wc q).cell hN.hdr (by simp)
    rw [t.nd_its] at this
    exact this
  unfold ptr at hc0 HM
  have HT : Hid (t.root = r ∧ wc.heap[tb]? = some (.cells #[ptr r, .int .u64 0, .int .i64 (sizeL es : Nat)] 33 (0, 0)) ∧ Env F (tb + 1) σ wc ∧ Has σ t ∧ t.Ok 0 ∧ (d = 0 ∨ 1 ≤ t.its.length) ∧ t.ents = es ∧ Below tb w wc) := ⟨hr, hh1, he, hh, hok, hd, hen, hbw⟩
  clear hr hh1 he hh hok hd hen hbw hN
  go_upto_if 36 with fail
  refine HM.mono ?_
  rintro e w2 ⟨rfl, q, rfl⟩
  have h3' := h3 q
  go_upto_if 36 with fail
  go_cut [6] (fun s6 wc2 => ∃ r2 root0, s6 = ptr r2 ∧ Open F tb w es 30 r2 root0 wc2)
  case first =>
    obtain ⟨hr, hh1, he, hh, hok, hd, hen, hbw⟩ := HT.out
    have hch := drewN_chg wc q
    by_cases hfull : t.its.length = 31
    · rw [hfull] at h3'
      obtain ⟨x, hx⟩ : ∃ x, t.its[15]? = some x := by
        obtain ⟨_, _, x, hx, _⟩ := surg_split t 0 hok hfull 0
        exact ⟨x, hx⟩
      have hkl : ∀ ks, t.nd.kids = some ks → ks.length = 32 := by
        obtain ⟨_, _, _, _, _, _, _, _, h, _⟩ := surg_split t 0 hok hfull 0
        exact h
      have htn : σ r = some ⟨t.its, t.nd.kids⟩ := by rw [← hr, hh.here.in_root, ← t.nd_its]
      have HSP := split_any F (tb + 1) tb r t.its t.nd.kids σ (wc.drewN q) (hgen.later (below0 (B := tb + 1) htl1 hch) (Nat.lt_succ_self _)) (Nat.lt_succ_self _) (he.chg0 hch) htn hfull hkl x hx
      obtain ⟨kx, xa, xn, xc⟩ := x
      have HX : Hid (t.its[15]? = some ⟨kx, xa, xn, xc⟩ ∧ t.its.length = 31) := ⟨hx, hfull⟩
      clear hx hkl htn hr hh1 he hh hok hd hen hbw
      go_wp2_with fail
      clear hfull
      refine HSP.mono ?_
      rintro e w3 ⟨m, rfl, hm, he3, hb3⟩
      obtain ⟨hr, hh1, he, hh, hok, hd, hen, hbw⟩ := HT.out
      have hh3 : w3.heap[tb]? = some (.cells #[ptr r, .int .u64 0, .int .i64 (sizeL es : Nat)] 33 (0, 0)) := (hb3.block tb (Nat.lt_succ_self _)).trans (hch.heap hh1 (by simp))
      have hbw3 : Below tb w w3 := (hbw.trans (below0 (Nat.le_of_lt htl1) hch)).trans (hb3.mono (Nat.le_succ _))
      have hcA : Chg [] w3 (w3.alloc (.cells #[.string kx, .slice xa xn xc] 82)) := (Chg.refl _ _).alloc _
      have hvA : (w3.alloc (.cells #[.string kx, .slice xa xn xc] 82)).heap[w3.heap.size]? = some (.cells #[.string kx, .slice xa xn xc] 82 (0, 0)) := heap_alloc_new w3 _
      have HP : Hid (Env F (tb + 1) ((σ.set r ⟨t.its.take 15, t.nd.kids.map (List.take 16)⟩).set m ⟨t.its.drop 16, t.nd.kids.map (List.drop 16)⟩) w3 ∧ (wc.drewN q).heap.size ≤ m ∧ w3.heap[tb]? = some (.cells #[ptr r, .int .u64 0, .int .i64 (sizeL es : Nat)] 33 (0, 0)) ∧ Below tb w w3) := ⟨he3, hm, hh3, hbw3⟩
      have HAL : Hid (Chg [] w3 (w3.alloc (.cells #[.string kx, .slice xa xn xc] 82)) ∧ (w3.alloc (.cells #[.string kx, .slice xa xn xc] 82)).heap[w3.heap.size]? = some (.cells #[.string kx, .slice xa xn xc] 82 (0, 0))) := ⟨hcA, hvA⟩
      clear hr hh1 he hh hok hd hen hbw he3 hb3 hh3 hbw3 hcA hvA hm
      unfold It.val ptr
      go_wp2_with fail
      obtain ⟨hcA, hvA⟩ := HAL.out
      have htl3 : tb < w3.heap.size := (Array.getElem?_eq_some_iff.1 HP.out.2.2.1).1
      have hgA : Gen tb (w3.alloc (.cells #[.string kx, .slice xa xn xc] 82)) := (Lib.cell_of_heap (hcA.heap HP.out.2.2.1 (by simp)) 1).trans rfl
      generalize hwA : w3.alloc (.cells #[.string kx, .slice xa xn xc] 82) = wA at *
      clear hwA HAL
      refine (newNode_any tb false wA hgA).mono ?_
      rintro e w5 ⟨rfl, hN5, hc5⟩
      have hxm := hc5.heap hvA (by simp)
      have heA := HP.out.1.chg0 hcA
      have he5 := heA.made hc5 (Nat.le_refl _) hN5
      have hh5 := hc5.heap (hcA.heap HP.out.2.2.1 (by simp)) (by simp)
      have hb5 := HP.out.2.2.2.trans ((below0 (Nat.le_of_lt htl3) hcA).trans (below0 (Nat.le_trans (Nat.le_of_lt htl3) hcA.size) hc5))
      generalize hrr : wA.heap.size = rr at *
      have HRR : Hid (wA.heap.size = rr) := hrr
      clear hrr
      have hlt3 : w3.heap.size < rr := by rw [← HRR.out]; exact (Array.getElem?_eq_some_iff.1 hvA).1
      have k1 : w5.cell? ⟨w3.heap.size, 0, none⟩ = some (.string kx) := (Lib.cell_of_heap hxm 0).trans rfl
      have k2 : w5.cell? ⟨w3.heap.size, 1, none⟩ = some (.slice xa xn xc) := (Lib.cell_of_heap hxm 1).trans rfl
      have ha1 : w5.cell? ⟨rr + 1, 1, none⟩ = some (.slice (some ⟨rr, 0, none⟩) 0 31) := hN5.hdr
      clear hvA hcA hc5 heA h3'
      go_wp2_with fail
      unfold ptr
      refine wp_region_T [0, 1, 2, 3, 4, 5] [8, 9, 10] (fun W => (W.cell? ⟨rr + 1, 1, none⟩ = some (.slice (some ⟨rr, 0, none⟩) 0 31) ∧ W.cell? ⟨w3.heap.size, 0, none⟩ = some (.string kx)) ∧ W.cell? ⟨w3.heap.size, 1, none⟩ = some (.slice xa xn xc)) 5 (by kernel_rfl) (by kernel_rfl) ⟨⟨ha1, k1⟩, k2⟩ ?_
      iterate 6 (apply wpTake_cons rfl rfl (by rfl); (next => intro W hW; have hW1 := hW.1.1; have hW2 := hW.1.2; have hW3 := hW.2; clear hW; go_simp; first | done | with_reducible rfl | (go_bits; first | done | with_reducible rfl | (go_simp; first | done | with_reducible rfl))); simp only [List.setIfInBounds_toArray, List.set_cons_zero, List.set_cons_succ])
      refine wpTake_nil ?_
      refine wpAnyT_one (r := 6) (by kernel_rfl) rfl ?_
      intro K hK
      go_simp
      have hcB : Chg [] w5 (w5.alloc (.cells #[.string kx, .slice xa xn xc] 82)).drew := ((Chg.refl _ _).alloc _).drew
      have hvB : ((w5.alloc (.cells #[.string kx, .slice xa xn xc] 82)).drew).heap[w5.heap.size]? = some (.cells #[.string kx, .slice xa xn xc] 82 (0, 0)) := heap_alloc_new w5 _
      refine hK.out _ _ ⟨fun _ => ⟨⟨hcB.cell ha1 (by simp), hcB.cell k1 (by simp)⟩, hcB.cell k2 (by simp)⟩, ?_⟩
      clear hK K
      generalize (w5.alloc (.cells #[.string kx, .slice xa xn xc] 82)).drew = wB at *
      have heB := he5.chg0 hcB
      have hNB := heB.rep rr _ (Store.set_same _ _ _)
      have hhB := hcB.heap hh5 (by simp)
      have htl5 : tb < w5.heap.size := (Array.getElem?_eq_some_iff.1 hh5).1
      have hbB := hb5.trans (below0 (Nat.le_of_lt htl5) hcB)
      have hsrc : ∀ j v, ([Value.string kx, Value.slice xa xn xc])[j]? = some v → wB.cell? ((⟨w5.heap.size, 0, none⟩ : Addr).add j) = some v := src_at (L := []) (R := []) (by simpa using hvB) rfl
      obtain ⟨spc, hgc, hlc⟩ : ∃ sp, wB.heap[rr]? = some (.cells (flat [] ++ sp).toArray 82 (0, 0)) ∧ (flat [] ++ sp).length = 62 := hNB.items
      refine wpAnyT_one (r := 7) (by kernel_rfl) rfl ?_
      intro K hK
      refine step_append_k rfl _ _ _ rfl 82 2 Try.underlying76 info82 rr 0 0 31 rfl _ 1 _ rfl (flat [] ++ spc) 82 (by exact hgc) [.string kx, .slice xa xn xc] rfl (fun _ => ⟨_, rfl, hsrc⟩) (by omega) (by rw [hlc]; simp) (by simp [Value.oneCell']) ?_
      intro w6 hg6 hc6
      have f1 := hc6.cell (hcB.cell ha1 (by simp)) (by simp)
      have f3 : w6.frozen? ⟨rr + 1, 1, none⟩ = false := hc6.free (hNB.free 1) hNB.lt (by simp)
      refine hK.out _ _ ⟨fun _ => ⟨⟨f1, hc6.cell (hcB.cell k1 (by simp)) (by simp; omega)⟩, hc6.cell (hcB.cell k2 (by simp)) (by simp; omega)⟩, ?_⟩
      clear hK K
      simp only [Act.put, List.setIfInBounds_toArray, List.set_cons_zero, List.set_cons_succ]
      refine wpAnyT_one (r := 8) (by kernel_rfl) rfl ?_
      intro K hK
      go_simp
      refine hK.out _ _ ⟨(fun h => by cases h), ?_⟩
      clear hK K
      refine wpAnyT_one (r := 9) (by kernel_rfl) rfl ?_
      intro K hK
      go_simp
      refine hK.out _ _ ⟨(fun h => by cases h), ?_⟩
      clear hK K
      refine wpAnyT_one (r := 10) (by kernel_rfl) rfl ?_
      intro K hK
      go_simp
      refine hK.out _ _ ⟨(fun h => by cases h), ?_⟩
      clear hK K
      refine wpAnyT_done (by kernel_rfl) ?_ _
      refine NoPanic.normal ?_
      have hi6 : Items w6 rr [⟨kx, xa, xn, xc⟩] := by
        have : RowOf 82 62 w6 rr (flat [] ++ [.string kx, .slice xa xn xc]) := row_append (old := flat []) (cs := [.string kx, .slice xa xn xc]) hg6.out (by rfl) hlc (by simp [flat])
        exact this
      have hp6 := hNB.put_items hc6 hi6 (n := 0 + 1) (by simp)
      have he6 := heB.turn (Store.set_same _ _ _) hp6.2 hp6.1
      have hb6 := hbB.trans ((heB.below (Store.set_same _ _ _) hp6.2).mono (Nat.le_succ _))
      have hh6 := ((heB.below (Store.set_same _ _ _) hp6.2).block tb (Nat.lt_succ_self _)).trans hhB
      rw [Store.set_set] at he6
      clear hp6 hi6 f1 f3 hc6 hg6 hsrc hgc hlc hNB hhB hbB heB hvB hcB ha1 k1 k2 hN5 he5 hh5 hb5 hxm
      generalize w6.setCell ⟨rr + 1, 1, none⟩ (.slice (some ⟨rr, 0, none⟩) (0 + 1) 31) = w8 at *
      have hN8 := he6.rep rr _ (Store.set_same _ _ _)
      have ha8 : w8.cell? ⟨rr + 1, 2, none⟩ = some (.slice (some ⟨rr + 2, 0, none⟩) 0 32) := hN8.khdr
      have hcC : Chg [] w8 (w8.alloc (.cells #[.pointer (some ⟨r + 1, 0, none⟩), .pointer (some ⟨m + 1, 0, none⟩)] 30)) := (Chg.refl _ _).alloc _
      have hvC : ((w8.alloc (.cells #[.pointer (some ⟨r + 1, 0, none⟩), .pointer (some ⟨m + 1, 0, none⟩)] 30))).heap[w8.heap.size]? = some (.cells #[.pointer (some ⟨r + 1, 0, none⟩), .pointer (some ⟨m + 1, 0, none⟩)] 30 (0, 0)) := heap_alloc_new w8 _
      have heC := he6.chg0 hcC
      have hNC := heC.rep rr _ (Store.set_same _ _ _)
      obtain ⟨spk, hgk, hlk⟩ : ∃ sp, ((w8.alloc (.cells #[.pointer (some ⟨r + 1, 0, none⟩), .pointer (some ⟨m + 1, 0, none⟩)] 30))).heap[rr + 2]? = some (.cells (([] : List Nat).map ptr ++ sp).toArray 30 (0, 0)) ∧ (([] : List Nat).map ptr ++ sp).length = 32 := hNC.kids _ rfl
      have hsrc : ∀ j v, ([ptr r, ptr m])[j]? = some v → ((w8.alloc (.cells #[.pointer (some ⟨r + 1, 0, none⟩), .pointer (some ⟨m + 1, 0, none⟩)] 30))).cell? ((⟨w8.heap.size, 0, none⟩ : Addr).add j) = some v := src_at (L := []) (R := []) (by simpa [ptr] using hvC) rfl
      go_wp2_with (at_builtin; refine wpList_append_k rfl _ _ _ rfl 30 1 Try.underlying77 info30 (rr + 2) 0 0 32 rfl _ 2 _ rfl (([] : List Nat).map ptr ++ spk) 30 hgk [ptr r, ptr m] rfl (fun _ => ⟨_, rfl, hsrc⟩) (by omega) (by rw [hlk]; simp) (by simp [ptr, Value.oneCell']) ?_)
      intro w9 hg9 hc9
      have f1 := hc9.cell (hcC.cell ha8 (by simp)) (by simp)
      have f3 : w9.frozen? ⟨rr + 1, 2, none⟩ = false := hc9.free (hNC.free 2) hNC.lt (by simp)
      go_wp2_with fail
      go_meet
      have hi9 : RowOf 30 32 w9 (rr + 2) ([r, m].map ptr) := by
        have : RowOf 30 32 w9 (rr + 2) (([] : List Nat).map ptr ++ [ptr r, ptr m]) := row_append (old := ([] : List Nat).map ptr) (cs := [ptr r, ptr m]) hg9.out (by rfl) hlk (by simp)
        exact this
      have hp9 := hNC.put_kids (ks' := [r, m]) rfl hc9 hi9 (n := 0 + 2) (by simp)
      have he9 := heC.turn (Store.set_same _ _ _) hp9.2 hp9.1
      have htl8 : tb < w8.heap.size := (Array.getElem?_eq_some_iff.1 hh6).1
      have hb9 := (hb6.trans (below0 (Nat.le_of_lt htl8) hcC)).trans ((heC.below (Store.set_same _ _ _) hp9.2).mono (Nat.le_succ _))
      have hh9 := ((heC.below (Store.set_same _ _ _) hp9.2).block tb (Nat.lt_succ_self _)).trans (hcC.heap hh6 (by simp))
      rw [Store.set_set] at he9
      obtain ⟨hr, hh1, he, hh, hok, hd, hen, hbw⟩ := HT.out
      obtain ⟨hx15, hl31⟩ := HX.out
      obtain ⟨tl, tr, x, hx, e1, e2, e3, e4, _, e5, o1, o2, l1, l2, hsin⟩ := surg_split t 0 hok hl31 m
      rw [hx15] at hx
      cases hx
      have hmn : σ m = none := he.new (by have := HP.out.2.1; rw [show (wc.drewN q).heap.size = wc.heap.size from rfl] at this; omega)
      have hrr : σ rr = none := he.new (by
        have h1 := hlt3
        have h2 := HP.out.2.1
        have h3 : m < w3.heap.size := (HP.out.1.rep m _ (Store.set_same _ _ _)).lt |> Nat.lt_of_succ_lt
        rw [show (wc.drewN q).heap.size = wc.heap.size from rfl] at h2
        omega)
      have hmr : m ≠ r := by
        rintro rfl
        have := hh.here.in_root
        rw [hr, hmn] at this; cases this
      have hrrr : rr ≠ r := by
        rintro rfl
        have := hh.here.in_root
        rw [hr, hrr] at this; cases this
      have hrrm : rr ≠ m := by
        have h3 : m < w3.heap.size := (HP.out.1.rep m _ (Store.set_same _ _ _)).lt |> Nat.lt_of_succ_lt
        omega
      generalize hS : ((σ.set r ⟨t.its.take 15, t.nd.kids.map (List.take 16)⟩).set m ⟨t.its.drop 16, t.nd.kids.map (List.drop 16)⟩).set rr ⟨[⟨kx, xa, xn, xc⟩], some [r, m]⟩ = σ9 at he9
      have hS' : (((σ.set r ⟨t.its.take 15, t.nd.kids.map (List.take 16)⟩).set m ⟨t.its.drop 16, t.nd.kids.map (List.drop 16)⟩).set rr ⟨[⟨kx, xa, xn, xc⟩], some [r, m]⟩) = σ9 := hS
      have g1 : σ9 r = some tl.nd := by rw [← hS', Store.set_other _ _ hrrr.symm, Store.set_other _ _ hmr.symm, Store.set_same, e3]
      have g2 : σ9 m = some tr.nd := by rw [← hS', Store.set_other _ _ hrrm.symm, Store.set_same, e4]
      have g3 : σ9 rr = some ⟨[⟨kx, xa, xn, xc⟩], some [r, m]⟩ := by rw [← hS', Store.set_same]
      obtain ⟨i1, i2, i3, i4⟩ := hsin σ σ9 hh.here hh.once hmn (by rw [hr]; exact g1) g2 (fun x hx hne => by
        rw [hr] at hne
        have hxs := hh.here.ne x hx
        rw [← hS', Store.set_other _ _ (by rintro rfl; exact hxs hrr), Store.set_other _ _ (by rintro rfl; exact hxs hmn), Store.set_other _ _ hne])
      refine ⟨rr, ptr r, rfl, d + 1, node rr [⟨kx, xa, xn, xc⟩] [tl, tr], σ9, rfl, hh9, he9, ⟨⟨?_, ?_⟩, ?_⟩, ⟨?_, ?_, rfl, ?_⟩, .inr ?_, ?_, hb9, ?_⟩
      · show σ9 rr = some ⟨[⟨kx, xa, xn, xc⟩], some [tl.root, tr.root]⟩
        rw [g3, e1, e2, hr]
      · intro k hk
        have hk' : k ∈ [tl, tr] := hk
        simp only [List.mem_cons, List.not_mem_nil, or_false] at hk'
        rcases hk' with rfl | rfl
        · exact i1
        · exact i2
      · show (rr :: [tl, tr].flatMap Tr.ids).Nodup
        simp only [List.flatMap_cons, List.flatMap_nil, List.append_nil]
        refine List.nodup_cons.2 ⟨fun hm => ?_, i3⟩
        rcases i4 rr hm with h | h
        · exact hh.here.ne rr h hrr
        · exact hrrm h
      · show 0 ≤ _; exact Nat.zero_le _
      · show 1 ≤ 31; omega
      · intro k hk
        have hk' : k ∈ [tl, tr] := hk
        simp only [List.mem_cons, List.not_mem_nil, or_false] at hk'
        rcases hk' with rfl | rfl
        · exact o1
        · exact o2
      · show 1 ≤ 1; omega
      · show inter [⟨kx, xa, xn, xc⟩] [tl.ents, tr.ents] = es
        rw [← hen, e5]; rfl
      · show 1 ≤ 30; omega
    · have z1 : (t.its.length : Int) ≠ 31 := by omega
      go_wp2_with fail
      go_meet
      refine ⟨r, ptr r, rfl, d, t, σ, hr, hch.heap hh1 (by simp), he.chg0 hch, hh, hok, hd, hen, hbw.trans (below0 (Nat.le_of_lt htl1) hch), by omega⟩
  case rest =>
  obtain ⟨r2, root0, rfl, dd, tt, σ2, hr2, hh2, he2, hha2, hok2, hd2, hen2, hb2, hl2⟩ := hcut
  have g0 : wc.cell? ⟨tb, 0, none⟩ = some root0 := (Lib.cell_of_heap hh2 0).trans rfl
  have g1 : wc.frozen? ⟨tb, 0, none⟩ = false := by simp [World.frozen?, hh2]
  have htl2 : tb < wc.heap.size := (Array.getElem?_eq_some_iff.1 hh2).1
  clear HM h3 h3' HT hc0 hgen hl31
  unfold ptr
  have hct : Chg [tb] wc (wc.setCell ⟨tb, 0, none⟩ (.pointer (some ⟨r2 + 1, 0, none⟩))) := (Chg.refl _ _).setCell (.inl (by simp)) _
  have hh3 := setCell_heap (j := 0) hh2 (.pointer (some ⟨r2 + 1, 0, none⟩))
  have he3 := he2.tree HB.out.2.1 hct
  have hb3 := hb2.trans (below_tb htl2 hct)
  go_wp2_with fail
  generalize hw3 : wc.setCell ⟨tb, 0, none⟩ (.pointer (some ⟨r2 + 1, 0, none⟩)) = w3 at *
  clear hw3
  clear hct he2 hb2 g0 g1
  go_loopg [6] (dd + 1) (fun g x wr => ∃ (d' : Nat) (t' : Tr d') (m' : Nat) (σ' : Store), x = ptr t'.root ∧ d' < g ∧ wr.heap[tb]? = some (.cells #[ptr r2, .int .u64 0, .int .i64 (sizeL es : Nat)] 33 (0, 0)) ∧ Env F (tb + 1) σ' wr ∧ Has σ' t' ∧ t'.Ok m' ∧ m' ≤ 15 ∧ t'.its.length ≤ 30 ∧ (d' = 0 ∨ 1 ≤ t'.its.length) ∧ Sorted t'.ents ∧ Below tb w wr ∧ sizeL (putL ⟨key, va, vn, vc⟩ es) + sizeL t'.ents = sizeL es + sizeL (putL ⟨key, va, vn, vc⟩ t'.ents) ∧ sizeL t'.ents ≤ sizeL es ∧ Wand (putL ⟨key, va, vn, vc⟩) dd r2 1 1 es m' σ' t')
  case atStart =>
    refine ⟨dd, tt, 0, σ2, by rw [hr2]; rfl, Nat.lt_succ_self _, hh3, he3, hha2, hok2, Nat.zero_le _, hl2, hd2, by rw [hen2]; exact HB.out.1, hb3, by rw [hen2]; omega, by rw [hen2]; exact Nat.le_refl _, ?_⟩
    intro t2 σ4 hu hh hr he hok hk
    exact ⟨t2, hh, hr.trans hr2, t2.ok_mono hok hk, by rw [he, hen2]⟩
  case round =>
    clear hh2 hh3 he3 hha2 hok2 hd2 hen2 hb3 hl2 hr2
    obtain ⟨d', t', m', σ', rfl, hg, hh1, he, hh, hok, hm15, hl30, hd, hs, hbw, hsz, hsz2, hwand⟩ := hrel
    have hN := he.rep _ _ hh.here.in_root
    have h1 : wr.cell? ⟨t'.root + 1, 1, none⟩ = some (.slice (some ⟨t'.root, 0, none⟩) t'.its.length 31) := by
      have := hN.hdr
      rw [t'.nd_its] at this
      exact this
    have hits : Items wr t'.root t'.its := by
      have := hN.items
      rw [t'.nd_its] at this
      exact this
    have HSR := search_any t'.root t'.its key wr hits (t'.its_sorted hok hs)
    unfold ptr
    generalize hrb : t'.root = rb at *
    have HT : Hid (t'.root = rb ∧ wr.heap[tb]? = some (.cells #[ptr r2, .int .u64 0, .int .i64 (sizeL es : Nat)] 33 (0, 0)) ∧ Env F (tb + 1) σ' wr ∧ Has σ' t' ∧ t'.Ok m' ∧ m' ≤ 15 ∧ t'.its.length ≤ 30 ∧ (d' = 0 ∨ 1 ≤ t'.its.length) ∧ Sorted t'.ents ∧ Below tb w wr ∧ sizeL (putL ⟨key, va, vn, vc⟩ es) + sizeL t'.ents = sizeL es + sizeL (putL ⟨key, va, vn, vc⟩ t'.ents) ∧ sizeL t'.ents ≤ sizeL es ∧ Wand (putL ⟨key, va, vn, vc⟩) dd r2 1 1 es m' σ' t') := ⟨hrb, hh1, he, hh, hok, hm15, hl30, hd, hs, hbw, hsz, hsz2, hwand⟩
    have hl30' : t'.its.length ≤ 30 := hl30
    clear hN hrb hh1 he hh hok hd hs hbw hsz hsz2 hwand hl30
    go_wp2_with fail
    refine HSR.mono ?_
    rintro e w1 ⟨i, rfl, hp, hc1⟩
    have HP : Hid (Place t'.its key i) := hp
    have hile : i ≤ t'.its.length := hp.le
    have HIT : Hid (Items w1 rb t'.its) := hits.chg hc1 (by simp)
    have h3 := hc1.cell h1 (by simp)
    have HC1 : Hid (Chg [] wr w1) := hc1
    clear hp h1 hits HSR hc1
    have z1 : (0 : Int) ≤ (i : Int) := Int.natCast_nonneg _
    by_cases hf : foundB t'.its key i = true
    · obtain ⟨y, hy, hyk⟩ := found_get hf
      have HU : Hid (Env F (tb + 1) σ' w1 ∧ Has σ' (t') ∧ (t').Ok m' ∧ Sorted (t').ents ∧ Below tb w w1 ∧ sizeL (putL ⟨key, va, vn, vc⟩ es) + sizeL (t').ents = sizeL es + sizeL (putL ⟨key, va, vn, vc⟩ (t').ents) ∧ sizeL (t').ents ≤ sizeL es ∧ Wand (putL ⟨key, va, vn, vc⟩) dd r2 1 1 es m' σ' (t') ∧ w1.heap[tb]? = some (.cells #[ptr r2, .int .u64 0, .int .i64 (sizeL es : Nat)] 33 (0, 0)) ∧ (t').root = rb) := by
        obtain ⟨hrb, hh1, he, hh, hok, hm15, hl30, hd, hs, hbw, hsz, hsz2, hwand⟩ := HT.out
        exact ⟨he.chg0 HC1.out, hh, hok, hs, hbw.trans (below0 (Nat.le_trans (Nat.le_of_lt htl) hbw.size) HC1.out), hsz, hsz2, hwand, HC1.out.heap hh1 (by simp), hrb⟩
      rw [hf]
      clear hf HT HC1 HP
      obtain ⟨hi, hyy⟩ := List.getElem?_eq_some_iff.1 hy
      have hat := HIT.out.at hi
      rw [hyy] at hat
      obtain ⟨ky, ya, yn, yc⟩ := y
      have hyk' : ky = key := hyk
      subst hyk'
      have hat1 : w1.cell? ⟨rb, i * 2, none⟩ = some (.string ky) := hat.1
      have hat2 : w1.cell? ⟨rb, i * 2 + 1, none⟩ = some (.slice ya yn yc) := hat.2
      have hfb := HIT.out.frozen (i * 2 + 1)
      have z2 : (i : Int) < ((t').its.length : Int) := by omega
      have hh1 := HU.out.2.2.2.2.2.2.2.2.1
      have hyin : (⟨ky, ya, yn, yc⟩ : It) ∈ (t').ents := (Tr.its_sub _ HU.out.2.2.1).subset (List.mem_of_getElem? hy)
      have hys := sizeL_mem hyin
      have hes := HU.out.2.2.2.2.2.2.1
      have hbb := HB.out.2.2
      have hyn : (yn : Int) < 4611686018427387904 := by
        have : ky.size + yn ≤ sizeL (t').ents := hys
        omega
      have hvn : (vn : Int) < 4611686018427387904 := by omega
      have hyn0 : (0 : Int) ≤ (yn : Int) := Int.natCast_nonneg _
      have hvn0 : (0 : Int) ≤ (vn : Int) := Int.natCast_nonneg _
      have hse : (sizeL es : Int) < 4611686018427387904 := by omega
      have hse0 : (0 : Int) ≤ (sizeL es : Int) := Int.natCast_nonneg _
      have hlo := HU.out.1.lo rb _ (by rw [← HU.out.2.2.2.2.2.2.2.2.2]; exact HU.out.2.1.here.in_root)
      have HY : Hid ((t').its[i]? = some ⟨ky, ya, yn, yc⟩) := hy
      clear hat hyy hy hyk hyin hys hes hbb
      generalize hsz : (sizeL es : Int) = S at *
      have HSZ : Hid ((sizeL es : Int) = S) := hsz
      clear hsz
      have c2 : w1.cell? ⟨tb, 2, none⟩ = some (.int .i64 S) := (Lib.cell_of_heap hh1 2).trans rfl
      have c3 : w1.frozen? ⟨tb, 2, none⟩ = false := by simp [World.frozen?, hh1]
      have htl1 : tb < w1.heap.size := (Array.getElem?_eq_some_iff.1 hh1).1
      have htr : tb ≠ rb := by omega
      have htr' : tb ≠ rb + 1 := by omega
      have hlt1 : rb + 1 < w1.heap.size := World.block_lt_of_cell? w1 _ h3
      have HH1 : Hid (w1.heap[tb]? = some (.cells #[ptr r2, .int .u64 0, .int .i64 S] 33 (0, 0))) := hh1
      clear hh1
      go_wp2_with fail
      refine wp_region_T [0, 1, 2, 3, 4, 5, 6, 7, 8, 9, 10, 11, 12, 13, 14, 15, 16] [17, 18, 19] (fun W => (W.cell? ⟨tb, 2, none⟩ = some (.int .i64 S) ∧ W.cell? ⟨rb + 1, 1, none⟩ = some (.slice (some ⟨rb, 0, none⟩) (t').its.length 31)) ∧ W.cell? ⟨rb, i * 2 + 1, none⟩ = some (.slice ya yn yc)) 3 (by kernel_rfl) (by kernel_rfl) ⟨⟨c2, h3⟩, hat2⟩ ?_
      iterate 17 (apply wpTake_cons rfl rfl (by rfl); (next => intro W hW; have hW1 := hW.1.1; have hW2 := hW.1.2; have hW3 := hW.2; clear hW; go_simp; first | done | with_reducible rfl | (go_bits; first | done | with_reducible rfl | (go_simp; first | done | with_reducible rfl))); simp only [List.setIfInBounds_toArray, List.set_cons_zero, List.set_cons_succ])
      refine wpTake_nil ?_
      refine wpAnyT_one (r := 17) (by kernel_rfl) rfl ?_
      intro K hK
      go_simp
      refine hK.out _ _ ⟨(fun h => by cases h), ?_⟩
      clear hK K
      refine wpAnyT_one (r := 18) (by kernel_rfl) rfl ?_
      intro K hK
      go_simp
      refine hK.out _ _ ⟨(fun h => by cases h), ?_⟩
      clear hK K
      refine wpAnyT_one (r := 19) (by kernel_rfl) rfl ?_
      intro K hK
      go_simp
      refine hK.out _ _ ⟨(fun h => by cases h), ?_⟩
      clear hK K
      refine wpAnyT_done (by kernel_rfl) ?_ _
      refine NoPanic.normal ?_
      go_wp2_with fail
      have hct : Chg [tb] w1 (w1.setCell ⟨tb, 2, none⟩ (.int .i64 (S + ((vn : Int) - (yn : Int))))) := (Chg.refl _ _).setCell (.inl (by simp)) _
      obtain ⟨he, hh, hok, hs, hbw, hsz, hsz2, hwand, hh1, hrb⟩ := HU.out
      have he1 := he.tree HB.out.2.1 hct
      have hsr : σ' rb = some (t').nd := by rw [← hrb]; exact hh.here.in_root
      have hNr := he1.rep rb _ hsr
      have hi1 : Items (w1.setCell ⟨tb, 2, none⟩ (.int .i64 (S + ((vn : Int) - (yn : Int))))) rb (t').its := by
        have := hNr.items
        rw [Tr.nd_its] at this
        exact this
      have hst := hi1.store hi ⟨ky, va, vn, vc⟩
      rw [setCell_self _ rb (i * 2) (.string ky) (by
        have := (hi1.at hi).1
        rw [show (t').its[i].key = ky by rw [(List.getElem?_eq_some_iff.1 HY.out).2]] at this
        exact this)] at hst
      have hcs : Chg [rb] (w1.setCell ⟨tb, 2, none⟩ (.int .i64 (S + ((vn : Int) - (yn : Int))))) ((w1.setCell ⟨tb, 2, none⟩ (.int .i64 (S + ((vn : Int) - (yn : Int))))).setCell ⟨rb, i * 2 + 1, none⟩ (.slice va vn vc)).drew := ((Chg.refl _ _).setCell (.inl (by simp)) _).drew
      have hps := hNr.set_items hcs (show Items ((w1.setCell ⟨tb, 2, none⟩ (.int .i64 (S + ((vn : Int) - (yn : Int))))).setCell ⟨rb, i * 2 + 1, none⟩ (.slice va vn vc)).drew rb _ from hst) (by rw [List.length_set, Tr.nd_its])
      have he2 := he1.turn hsr hps.2 hps.1
      have hht1 := setCell_heap (j := 2) HH1.out (.int .i64 (S + ((vn : Int) - (yn : Int))))
      have hht2 := ((he1.below hsr hps.2).block tb (Nat.lt_succ_self _)).trans hht1
      have hbf := (hbw.trans (below_tb htl1 hct)).trans ((he1.below hsr hps.2).mono (Nat.le_succ _))
      obtain ⟨L, R, hL1, hL2⟩ := Tr.ents_set (t') hok HY.out
      have hput : putL ⟨ky, va, vn, vc⟩ (t').ents = L ++ ⟨ky, va, vn, vc⟩ :: R := by
        rw [hL1] at hs ⊢
        exact putL_here rfl (fun e he => hs.cross (y := ⟨ky, ya, yn, yc⟩) he List.mem_cons_self) (fun e he => (List.pairwise_cons.1 hs.right).1 e he)
      have hwi := Tr.withIts_has ((t').its.set i ⟨ky, va, vn, vc⟩) hh
      rw [hrb] at hwi
      have hil : ((t').its.set i ⟨ky, va, vn, vc⟩).length = (t').its.length := List.length_set
      obtain ⟨T, hT1, hT2, hT3, hT4⟩ := hwand _ _ hwi.2 hwi.1 (Tr.withIts_root _ _) ((hL2 _).trans hput.symm) (Tr.withIts_ok _ _ hok hil (by rw [hil]; exact (Tr.ok_len hok).1)) (by rw [Tr.withIts_its, hil]; omega)
      have hsize : S + ((vn : Int) - (yn : Int)) = ((sizeL (putL ⟨ky, va, vn, vc⟩ es) : Nat) : Int) := by
        rw [hput, hL1, sizeL_append, sizeL_append, sizeL_cons, sizeL_cons] at hsz
        simp only at hsz
        rw [← HSZ.out]
        omega
      refine bodyPost_ret (v := .tuple #[]) (by simp [results, Try.results27, go_sem]) rfl ⟨rfl, ⟨HB.out.1.put _, HB.out.2.1, ptr r2, ?_, .inr ⟨dd, T, _, by rw [hT2], he2, hT1, hT3, hT4⟩⟩, hbf⟩
      rw [hht2, ← hsize]
      rfl
    · have hf' : foundB t'.its key i = false := by simpa using hf
      rw [hf']
      have HF : Hid (foundB t'.its key i = false) := hf'
      clear hf hf'
      cases d' with
      | zero =>
        obtain ⟨b, its⟩ := t'
        obtain ⟨hrb, hh1, he, hh, hok, hm15, hl30, hd, hs, hbw, hsz, hsz2, hwand⟩ := HT.out
        have hrb' : b = rb := hrb
        subst hrb'
        have hN := (he.chg0 HC1.out).rep b _ hh.here.in_root
        have h4 : w1.cell? ⟨b + 1, 2, none⟩ = some (.slice none 0 0) := hN.khdr
        have h3' : w1.cell? ⟨b + 1, 1, none⟩ = some (.slice (some ⟨b, 0, none⟩) its.length 31) := h3
        have hh1' := HC1.out.heap hh1 (by simp)
        have hlo := he.lo b _ hh.here.in_root
        have hbb := HB.out.2.2
        have hvn : (vn : Int) < 4611686018427387904 := by omega
        have hvn0 : (0 : Int) ≤ (vn : Int) := Int.natCast_nonneg _
        have hkn : (key.size : Int) < 4611686018427387904 := by omega
        have hkn0 : (0 : Int) ≤ (key.size : Int) := Int.natCast_nonneg _
        have hse0 : (0 : Int) ≤ (sizeL es : Int) := Int.natCast_nonneg _
        have hseb : (sizeL es : Int) + (key.size : Int) + (vn : Int) < 4611686018427387904 := by omega
        generalize hszz : (sizeL es : Int) = S at *
        have HSZ : Hid ((sizeL es : Int) = S) := hszz
        have HH1 : Hid (w1.heap[tb]? = some (.cells #[ptr r2, .int .u64 0, .int .i64 S] 33 (0, 0))) := hh1'
        have c2 : w1.cell? ⟨tb, 2, none⟩ = some (.int .i64 S) := (Lib.cell_of_heap hh1' 2).trans rfl
        have c3 : w1.frozen? ⟨tb, 2, none⟩ = false := by simp [World.frozen?, hh1']
        have htl1 : tb < w1.heap.size := (Array.getElem?_eq_some_iff.1 hh1').1
        have htr : tb ≠ b := by omega
        have htr' : tb ≠ b + 1 := by omega
        have hlt1 : b + 1 < w1.heap.size := hN.lt
        have hl30'' : its.length ≤ 30 := hl30'
        have hile' : i ≤ its.length := hile
        have HIT' : Hid (Items w1 b its) := HIT.out
        have HP' : Hid (Place its key i ∧ foundB its key i = false) := ⟨HP.out, HF.out⟩
        have hnn := nil77
        clear hszz hh1' hbb h3 h4 hN hh1 he hh hok hm15 hl30 hd hs hbw hsz hsz2 hwand hrb hl30' hile HIT HP HF
        have h4 : w1.cell? ⟨b + 1, 2, none⟩ = some (.slice none 0 0) := ((HT.out.2.2.1.chg0 HC1.out).rep b _ HT.out.2.2.2.1.here.in_root).khdr
        go_wp2_with fail
        obtain ⟨hrb, hh1, he, hh, hok, hm15, hl30, hd, hs, hbw, hsz, hsz2, hwand⟩ := HT.out
        have hsb : σ' b = some ⟨its, none⟩ := hh.here
        have hct : Chg [tb] w1 (w1.setCell ⟨tb, 2, none⟩ (.int .i64 (S + ((key.size : Int) + (vn : Int))))) := (Chg.refl _ _).setCell (.inl (by simp)) _
        have he1 := (he.chg0 HC1.out).tree HB.out.2.1 hct
        have hca : Chg [] (w1.setCell ⟨tb, 2, none⟩ (.int .i64 (S + ((key.size : Int) + (vn : Int))))) ((w1.setCell ⟨tb, 2, none⟩ (.int .i64 (S + ((key.size : Int) + (vn : Int))))).alloc (.cells #[.string key, .slice va vn vc] 82)) := (Chg.refl _ _).alloc _
        have hva : ((w1.setCell ⟨tb, 2, none⟩ (.int .i64 (S + ((key.size : Int) + (vn : Int))))).alloc (.cells #[.string key, .slice va vn vc] 82)).heap[(w1.setCell ⟨tb, 2, none⟩ (.int .i64 (S + ((key.size : Int) + (vn : Int))))).heap.size]? = some (.cells #[.string key, .slice va vn vc] 82 (0, 0)) := heap_alloc_new _ _
        have he2 := he1.chg0 hca
        have hht1 := hca.heap (setCell_heap (j := 2) HH1.out (.int .i64 (S + ((key.size : Int) + (vn : Int))))) (by simp)
        have hbf := ((hbw.trans (below0 (Nat.le_trans (Nat.le_of_lt htl) hbw.size) HC1.out)).trans (below_tb htl1 hct)).trans (below0 (Nat.le_trans (Nat.le_of_lt htl1) hct.size) hca)
        have hszA : (w1.setCell ⟨tb, 2, none⟩ (.int .i64 (S + ((key.size : Int) + (vn : Int))))).heap.size = w1.heap.size := by simp
        rw [hszA] at hva
        generalize ((w1.setCell ⟨tb, 2, none⟩ (.int .i64 (S + ((key.size : Int) + (vn : Int))))).alloc (.cells #[.string key, .slice va vn vc] 82)) = wB at *
        have hNB := he2.rep b _ hsb
        have hrowB : RowOf 82 62 wB b (flat (its.take i) ++ flat (its.drop i)) := by
          have := hNB.items
          unfold Items at this
          simp only at this
          rw [flat_take_drop its i] at this
          exact this
        have HI := insert82 b w1.heap.size its.length i _ (flat [⟨key, va, vn, vc⟩]) _ wB hrowB (by omega) hile' (by rw [flat_length, List.length_take]; omega) (by rw [flat_length]; rfl) (by rw [flat_length, List.length_drop]) hva (by omega) (flat_one_cell _) (flat_one_cell _)
        refine HI.mono ?_
        rintro e w6 ⟨rfl, hrow6, hc6⟩
        have f1 : w6.cell? ⟨b + 1, 1, none⟩ = some (.slice (some ⟨b, 0, none⟩) its.length 31) := hc6.cell hNB.hdr (by simp)
        have f3 := hc6.free (hNB.free 1) hNB.lt (by simp)
        go_wp2_with fail
        have hi6 : Items w6 b (its.take i ++ ([⟨key, va, vn, vc⟩] : List It) ++ its.drop i) := by
          unfold Items
          rw [flat_append, flat_append]
          exact hrow6
        have hp6 := hNB.put_items hc6 hi6 (n := its.length + 1) (by simp; omega)
        have he6 := he2.turn hsb hp6.2 hp6.1
        have hbf6 := hbf.trans ((he2.below hsb hp6.2).mono (Nat.le_succ _))
        have hht6 := ((he2.below hsb hp6.2).block tb (Nat.lt_succ_self _)).trans hht1
        have hits : its = its.take i ++ its.drop i := (List.take_append_drop i its).symm
        have hsit : Sorted its := hs
        have hput : putL ⟨key, va, vn, vc⟩ its = its.take i ++ ⟨key, va, vn, vc⟩ :: its.drop i := by
          conv => lhs; rw [hits]
          exact putL_none HP'.out.1.lo (HP'.out.1.hi hsit HP'.out.2)
        have hwi := Tr.withIts_has (t := leaf b its) (its.take i ++ ([⟨key, va, vn, vc⟩] : List It) ++ its.drop i) hh
        have hnl : (its.take i ++ ([⟨key, va, vn, vc⟩] : List It) ++ its.drop i).length = its.length + 1 := by simp; omega
        obtain ⟨T, hT1, hT2, hT3, hT4⟩ := hwand _ _ hwi.2 hwi.1 rfl (by
          show its.take i ++ ([⟨key, va, vn, vc⟩] : List It) ++ its.drop i = putL ⟨key, va, vn, vc⟩ its
          rw [hput]; simp) ⟨by
            have hm : m' ≤ its.length := hok.1
            show m' ≤ (its.take i ++ ([⟨key, va, vn, vc⟩] : List It) ++ its.drop i).length
            rw [hnl]; omega, by
            show (its.take i ++ ([⟨key, va, vn, vc⟩] : List It) ++ its.drop i).length ≤ 31
            rw [hnl]; omega⟩ (by
            show 1 ≤ (its.take i ++ ([⟨key, va, vn, vc⟩] : List It) ++ its.drop i).length
            rw [hnl]; omega)
        have hsize : S + ((key.size : Int) + (vn : Int)) = ((sizeL (putL ⟨key, va, vn, vc⟩ es) : Nat) : Int) := by
          have hsz' : sizeL (putL ⟨key, va, vn, vc⟩ es) + sizeL its = sizeL es + sizeL (putL ⟨key, va, vn, vc⟩ its) := hsz
          rw [hput, sizeL_append, sizeL_cons] at hsz'
          have h2 : sizeL its = sizeL (its.take i) + sizeL (its.drop i) := by rw [← sizeL_append, List.take_append_drop]
          simp only at hsz'
          rw [← HSZ.out]
          omega
        refine bodyPost_ret (v := .tuple #[]) (by simp [results, Try.results27, go_sem]) rfl ⟨rfl, ⟨HB.out.1.put _, HB.out.2.1, ptr r2, ?_, .inr ⟨dd, T, _, by rw [hT2], he6, hT1, hT3, hT4⟩⟩, hbf6⟩
        rw [hht6, ← hsize]
        rfl
      | succ d' =>
        obtain ⟨b, its, ks⟩ := t'
        obtain ⟨A, c, C, rfl, hA, hC, hents⟩ := node_around (b := b) HT.out.2.2.2.2.1 (i := i) hile
        subst hA
        have hrb' : b = rb := HT.out.1
        subst hrb'
        have HW : Hid (Env F (tb + 1) σ' w1 ∧ Has σ' (node b its (A ++ c :: C)) ∧ (node b its (A ++ c :: C)).Ok m' ∧ 1 ≤ its.length ∧ Sorted (node b its (A ++ c :: C)).ents ∧ Below tb w w1 ∧ sizeL (putL ⟨key, va, vn, vc⟩ es) + sizeL (node b its (A ++ c :: C)).ents = sizeL es + sizeL (putL ⟨key, va, vn, vc⟩ (node b its (A ++ c :: C)).ents) ∧ sizeL (node b its (A ++ c :: C)).ents ≤ sizeL es ∧ Wand (putL ⟨key, va, vn, vc⟩) dd r2 1 1 es m' σ' (node b its (A ++ c :: C)) ∧ w1.heap[tb]? = some (.cells #[ptr r2, .int .u64 0, .int .i64 (sizeL es : Nat)] 33 (0, 0)) ∧ Place its key A.length ∧ foundB its key A.length = false) := by
          obtain ⟨hrb, hh1, he, hh, hok, hm15, hl30, hd, hs, hbw, hsz, hsz2, hwand⟩ := HT.out
          exact ⟨he.chg0 HC1.out, hh, hok, hd.resolve_left (by omega), hs, hbw.trans (below0 (Nat.le_trans (Nat.le_of_lt htl) hbw.size) HC1.out), hsz, hsz2, hwand, HC1.out.heap hh1 (by simp), HP.out, HF.out⟩
        have hl30'' : its.length ≤ 30 := hl30'
        have hile' : A.length ≤ its.length := hile
        have h3' : w1.cell? ⟨b + 1, 1, none⟩ = some (.slice (some ⟨b, 0, none⟩) its.length 31) := h3
        clear HT HC1 HIT HP HF hile hl30' h3 hents
        have hkl : (A ++ c :: C).length = its.length + 1 := HW.out.2.2.1.2.2.1
        have hsb : σ' b = some ⟨its, some ((A ++ c :: C).map Tr.root)⟩ := HW.out.2.1.here.1
        have hN := HW.out.1.rep b _ hsb
        have h4 : w1.cell? ⟨b + 1, 2, none⟩ = some (.slice (some ⟨b + 2, 0, none⟩) (its.length + 1) 32) := by
          have : w1.cell? ⟨b + 1, 2, none⟩ = some (.slice (some ⟨b + 2, 0, none⟩) ((A ++ c :: C).map Tr.root).length 32) := hN.khdr
          rw [List.length_map, hkl] at this
          exact this
        have hgen : Gen tb w1 := (Lib.cell_of_heap HW.out.2.2.2.2.2.2.2.2.2.1 1).trans rfl
        have hki : A.length < ((A ++ c :: C).map Tr.root).length := by simp
        have hcI := (HW.out.2.1.child (c := c) (by simp)).here.in_root
        have hkc : ((A ++ c :: C).map Tr.root)[A.length] = c.root := by simp
        have HMC := mutableChild_any F (tb + 1) tb b A.length _ c.nd _ σ' w1 hgen HW.out.1 hsb rfl hki (by rw [hkc]; exact hcI)
        rw [hkc] at HMC
        have hnn := nil77
        clear hN hki hkc hgen
        go_wp2_with fail
        refine HMC.mono ?_
        rintro e w2 ⟨rfl, he2, hb2⟩
        have hNc := he2.rep _ _ hcI
        have h5 : w2.cell? ⟨c.root + 1, 1, none⟩ = some (.slice (some ⟨c.root, 0, none⟩) c.its.length 31) := by
          have := hNc.hdr
          rw [c.nd_its] at this
          exact this
        have hh2 := (hb2.block tb (Nat.lt_succ_self _)).trans HW.out.2.2.2.2.2.2.2.2.2.1
        have hbw2 : Below tb w w2 := HW.out.2.2.2.2.2.1.trans (hb2.mono (Nat.le_succ _))
        clear HMC h3' h4 hNc
        unfold ptr
        by_cases hfull : c.its.length = 31
        · rw [hfull] at h5
          obtain ⟨x, hx⟩ : ∃ x, c.its[15]? = some x := ⟨_, List.getElem?_eq_getElem (by omega)⟩
          have hcok : c.Ok 15 := HW.out.2.2.1.2.2.2 c (show c ∈ A ++ c :: C by simp)
          have hkl32 : ∀ ks, c.nd.kids = some ks → ks.length = 32 := by
            obtain ⟨_, _, _, _, _, _, _, _, h, _⟩ := surg_split c 15 hcok hfull 0
            exact h
          have hcs : σ' c.root = some ⟨c.its, c.nd.kids⟩ := by rw [hcI, ← c.nd_its]
          have HSP := split_any F (tb + 1) tb c.root c.its c.nd.kids σ' w2 ((Lib.cell_of_heap hh2 1).trans rfl) (Nat.lt_succ_self _) he2 hcs hfull hkl32 x hx
          obtain ⟨kx, xa, xn, xc⟩ := x
          have HX : Hid (c.its[15]? = some ⟨kx, xa, xn, xc⟩ ∧ c.its.length = 31 ∧ c.Ok 15) := ⟨hx, hfull, hcok⟩
          clear hx hkl32 hcok
          go_wp2_with fail
          clear hfull
          refine HSP.mono ?_
          rintro e w3 ⟨m, rfl, hm, he3, hb3⟩
          have hh3 := (hb3.block tb (Nat.lt_succ_self _)).trans hh2
          have hbw3 : Below tb w w3 := hbw2.trans (hb3.mono (Nat.le_succ _))
          have HP3 : Hid (Env F (tb + 1) ((σ'.set c.root ⟨c.its.take 15, c.nd.kids.map (List.take 16)⟩).set m ⟨c.its.drop 16, c.nd.kids.map (List.drop 16)⟩) w3 ∧ w2.heap.size ≤ m ∧ w3.heap[tb]? = some (.cells #[ptr r2, .int .u64 0, .int .i64 (sizeL es : Nat)] 33 (0, 0)) ∧ Below tb w w3 ∧ Env F (tb + 1) σ' w2) := ⟨he3, hm, hh3, hbw3, he2⟩
          have hcA : Chg [] w3 (w3.alloc (.cells #[.string kx, .slice xa xn xc] 82)) := (Chg.refl _ _).alloc _
          have hvA : (w3.alloc (.cells #[.string kx, .slice xa xn xc] 82)).heap[w3.heap.size]? = some (.cells #[.string kx, .slice xa xn xc] 82 (0, 0)) := heap_alloc_new w3 _
          have hbc : b ≠ c.root := by
            intro e
            have hnd : (b :: (A ++ c :: C).flatMap Tr.ids).Nodup := HW.out.2.1.once
            exact (List.nodup_cons.1 hnd).1 (List.mem_flatMap.2 ⟨c, by simp, by rw [e]; exact c.root_mem⟩)
          have hlt2 : b + 1 < w2.heap.size := (he2.rep b _ hsb).lt
          have hbm : b ≠ m := by omega
          have hsb1 : ((σ'.set c.root ⟨c.its.take 15, c.nd.kids.map (List.take 16)⟩).set m ⟨c.its.drop 16, c.nd.kids.map (List.drop 16)⟩) b = some ⟨its, some ((A ++ c :: C).map Tr.root)⟩ := by rw [Store.set_other _ _ hbm, Store.set_other _ _ hbc]; exact hsb
          have heA := he3.chg0 hcA
          have hNA := heA.rep b _ hsb1
          have ha1 : (w3.alloc (.cells #[.string kx, .slice xa xn xc] 82)).cell? ⟨b + 1, 1, none⟩ = some (.slice (some ⟨b, 0, none⟩) its.length 31) := hNA.hdr
          have ha2 : (w3.alloc (.cells #[.string kx, .slice xa xn xc] 82)).cell? ⟨w3.heap.size, 0, none⟩ = some (.string kx) := (Lib.cell_of_heap hvA 0).trans rfl
          have ha3 : (w3.alloc (.cells #[.string kx, .slice xa xn xc] 82)).cell? ⟨w3.heap.size, 1, none⟩ = some (.slice xa xn xc) := (Lib.cell_of_heap hvA 1).trans rfl
          have hlt3 : b + 1 < w3.heap.size := (he3.rep b _ hsb1).lt
          have hlt3k : b + 2 < w3.heap.size := ((he3.rep b _ hsb1).kids _ rfl).lt
          have hmlt : m + 1 < w3.heap.size := (he3.rep m _ (Store.set_same _ _ _)).lt
          have htl3 : tb < w3.heap.size := (Array.getElem?_eq_some_iff.1 hh3).1
          have HAL : Hid (Chg [] w3 (w3.alloc (.cells #[.string kx, .slice xa xn xc] 82))) := hcA
          clear he3 hb3 hh3 hbw3 hcA hvA hm HSP h5 hcs hh2 hbw2 he2 heA hNA
          unfold It.val ptr
          go_wp2_with fail
          generalize hwA : (w3.alloc (.cells #[.string kx, .slice xa xn xc] 82)) = wA at *
          clear hwA
          refine wp_region_T [0, 1, 2, 3, 4, 5, 6] [9, 10, 11] (fun W => (W.cell? ⟨b + 1, 1, none⟩ = some (.slice (some ⟨b, 0, none⟩) its.length 31) ∧ W.cell? ⟨w3.heap.size, 0, none⟩ = some (.string kx)) ∧ W.cell? ⟨w3.heap.size, 1, none⟩ = some (.slice xa xn xc)) 5 (by kernel_rfl) (by kernel_rfl) ⟨⟨ha1, ha2⟩, ha3⟩ ?_
          iterate 7 (apply wpTake_cons rfl rfl (by rfl); (next => intro W hW; have hW1 := hW.1.1; have hW2 := hW.1.2; have hW3 := hW.2; clear hW; go_simp; first | done | with_reducible rfl | (go_bits; first | done | with_reducible rfl | (go_simp; first | done | with_reducible rfl))); simp only [List.setIfInBounds_toArray, List.set_cons_zero, List.set_cons_succ])
          refine wpTake_nil ?_
          refine wpAnyT_one (r := 7) (by kernel_rfl) rfl ?_
          intro K hK
          go_simp
          have hcB : Chg [] wA (wA.alloc (.cells #[.string kx, .slice xa xn xc] 82)).drew := ((Chg.refl _ _).alloc _).drew
          have hvB : ((wA.alloc (.cells #[.string kx, .slice xa xn xc] 82)).drew).heap[wA.heap.size]? = some (.cells #[.string kx, .slice xa xn xc] 82 (0, 0)) := heap_alloc_new wA _
          refine hK.out _ _ ⟨fun _ => ⟨⟨hcB.cell ha1 (by simp), hcB.cell ha2 (by simp)⟩, hcB.cell ha3 (by simp)⟩, ?_⟩
          clear hK K
          generalize (wA.alloc (.cells #[.string kx, .slice xa xn xc] 82)).drew = wB at *
          have heB := (HP3.out.1.chg0 HAL.out).chg0 hcB
          have hNB := heB.rep b _ hsb1
          have hhB := hcB.heap (HAL.out.heap HP3.out.2.2.1 (by simp)) (by simp)
          have hszA : w3.heap.size ≤ wA.heap.size := HAL.out.size
          have hbB := HP3.out.2.2.2.1.trans ((below0 (Nat.le_of_lt htl3) HAL.out).trans (below0 (Nat.le_trans (Nat.le_of_lt htl3) hszA) hcB))
          have hrowB : RowOf 82 62 wB b (flat (its.take A.length) ++ flat (its.drop A.length)) := by
            have := hNB.items
            unfold Items at this
            simp only at this
            rw [flat_take_drop its A.length] at this
            exact this
          have HI := insert82 b wA.heap.size its.length A.length _ (flat [⟨kx, xa, xn, xc⟩]) _ wB hrowB (by omega) hile' (by rw [flat_length, List.length_take]; omega) (by rw [flat_length]; rfl) (by rw [flat_length, List.length_drop]) hvB (by omega) (flat_one_cell _) (flat_one_cell _)
          refine wpAnyT_one (r := 8) (by kernel_rfl) rfl ?_
          intro K hK
          go_simp
          refine HI.mono ?_
          rintro e w6 ⟨rfl, hrow6, hc6⟩
          have f1 := hc6.cell (hcB.cell ha1 (by simp)) (by simp)
          have f3 : w6.frozen? ⟨b + 1, 1, none⟩ = false := hc6.free (hNB.free 1) hNB.lt (by simp)
          have k2 := hc6.cell (hcB.cell ha2 (by simp)) (by simp; omega)
          have k3 := hc6.cell (hcB.cell ha3 (by simp)) (by simp; omega)
          refine hK.out _ _ ⟨fun _ => ⟨⟨f1, k2⟩, k3⟩, ?_⟩
          clear hK K
          refine wpAnyT_one (r := 9) (by kernel_rfl) rfl ?_
          intro K hK
          go_simp
          refine hK.out _ _ ⟨(fun h => by cases h), ?_⟩
          clear hK K
          refine wpAnyT_one (r := 10) (by kernel_rfl) rfl ?_
          intro K hK
          go_simp
          refine hK.out _ _ ⟨(fun h => by cases h), ?_⟩
          clear hK K
          refine wpAnyT_one (r := 11) (by kernel_rfl) rfl ?_
          intro K hK
          go_simp
          refine hK.out _ _ ⟨(fun h => by cases h), ?_⟩
          clear hK K
          refine wpAnyT_done (by kernel_rfl) ?_ _
          refine NoPanic.normal ?_
          have hi6 : Items w6 b (its.take A.length ++ ([⟨kx, xa, xn, xc⟩] : List It) ++ its.drop A.length) := by
            unfold Items
            rw [flat_append, flat_append]
            exact hrow6
          have hp6 := hNB.put_items hc6 hi6 (n := its.length + 1) (by simp; omega)
          have he6 := heB.turn hsb1 hp6.2 hp6.1
          have hb6 := hbB.trans ((heB.below hsb1 hp6.2).mono (Nat.le_succ _))
          have hh6 := ((heB.below hsb1 hp6.2).block tb (Nat.lt_succ_self _)).trans hhB
          have kk2 := hp6.2.cell (hcB.cell ha2 (by simp)) (by simp [Nd.blocks]; omega)
          clear hp6 hi6 f1 f3 hc6 hrow6 HI hrowB hNB hbB hhB heB hvB hcB ha1 ha2 ha3 k2 k3
          generalize w6.setCell ⟨b + 1, 1, none⟩ (.slice (some ⟨b, 0, none⟩) (its.length + 1) 31) = w8 at *
          have hN8 := he6.rep b _ (Store.set_same _ _ _)
          have ha8 : w8.cell? ⟨b + 1, 2, none⟩ = some (.slice (some ⟨b + 2, 0, none⟩) (its.length + 1) 32) := by
            have : w8.cell? ⟨b + 1, 2, none⟩ = some (.slice (some ⟨b + 2, 0, none⟩) ((A ++ c :: C).map Tr.root).length 32) := hN8.khdr
            rw [List.length_map, hkl] at this
            exact this
          have hcC : Chg [] w8 (w8.alloc (.cells #[.pointer (some ⟨m + 1, 0, none⟩)] 30)) := (Chg.refl _ _).alloc _
          have hvC : (w8.alloc (.cells #[.pointer (some ⟨m + 1, 0, none⟩)] 30)).heap[w8.heap.size]? = some (.cells #[.pointer (some ⟨m + 1, 0, none⟩)] 30 (0, 0)) := heap_alloc_new w8 _
          have heC := he6.chg0 hcC
          have hNC := heC.rep b _ (Store.set_same _ _ _)
          have hksl : ((A ++ c :: C).map Tr.root).length = its.length + 1 := by rw [List.length_map, hkl]
          have hrowC : RowOf 30 32 (w8.alloc (.cells #[.pointer (some ⟨m + 1, 0, none⟩)] 30)) (b + 2) ((((A ++ c :: C).map Tr.root).take (A.length + 1)).map ptr ++ (((A ++ c :: C).map Tr.root).drop (A.length + 1)).map ptr) := by
            have := hNC.kids _ rfl
            rw [← List.map_append, List.take_append_drop]
            exact this
          have hb2lt : b + 2 < w8.heap.size := (hN8.kids _ rfl).lt
          have HI := insert30 (b + 2) w8.heap.size (its.length + 1) (A.length + 1) _ [ptr m] _ (w8.alloc (.cells #[.pointer (some ⟨m + 1, 0, none⟩)] 30)) hrowC (by omega) (by omega) (by rw [List.length_map, List.length_take, hksl]; omega) rfl (by rw [List.length_map, List.length_drop, hksl]; omega) hvC (by omega) (ptrs_one _) (by simp [ptr, Value.oneCell'])
          have ecast : (((A.length + 1 : Nat) : Int)) = (A.length : Int) + 1 := by omega
          rw [ecast] at HI
          unfold ptr at HI
          go_wp2_with fail
          refine HI.mono ?_
          rintro e w9 ⟨rfl, hrow9, hc9⟩
          have f1 := hc9.cell (hcC.cell ha8 (by simp)) (by simp)
          have f3 : w9.frozen? ⟨b + 1, 2, none⟩ = false := hc9.free (hNC.free 2) hNC.lt (by simp)
          have hp9 := hNC.put_kids (ks' := (((A ++ c :: C).map Tr.root).take (A.length + 1) ++ [m] ++ ((A ++ c :: C).map Tr.root).drop (A.length + 1))) rfl hc9 (by rw [List.map_append, List.map_append]; exact hrow9) (n := its.length + 1 + 1) (by simp only [List.length_append, List.length_take, List.length_drop, hksl, List.length_singleton]; omega)
          have he9 := heC.turn (Store.set_same _ _ _) hp9.2 hp9.1
          have htl8 : tb < w8.heap.size := (Array.getElem?_eq_some_iff.1 hh6).1
          have hb9 := (hb6.trans (below0 (Nat.le_of_lt htl8) hcC)).trans ((heC.below (Store.set_same _ _ _) hp9.2).mono (Nat.le_succ _))
          have hh9 := ((heC.below (Store.set_same _ _ _) hp9.2).block tb (Nat.lt_succ_self _)).trans (hcC.heap hh6 (by simp))
          rw [Store.set_set] at he9
          have hbn : w3.heap.size ≠ b + 2 := by
            have := ((HP3.out.1.rep b _ hsb1).kids _ rfl).lt
            omega
          have k4 := hc9.cell (hcC.cell kk2 (by simp)) (by simp; omega)
          have kw : w3.heap.size < w9.heap.size := World.block_lt_of_cell? w9 _ k4
          have kw2 : b + 1 < w9.heap.size := World.block_lt_of_cell? w9 _ f1
          have kn : b + 1 ≠ w3.heap.size := by omega
          have kn' : w3.heap.size ≠ b + 1 := by omega
          have HZ : Hid (Env F (tb + 1) (((σ'.set c.root ⟨c.its.take 15, c.nd.kids.map (List.take 16)⟩).set m ⟨c.its.drop 16, c.nd.kids.map (List.drop 16)⟩).set b ⟨(its.take A.length ++ ([⟨kx, xa, xn, xc⟩] : List It) ++ its.drop A.length), some (((A ++ c :: C).map Tr.root).take (A.length + 1) ++ [m] ++ ((A ++ c :: C).map Tr.root).drop (A.length + 1))⟩) (w9.setCell ⟨b + 1, 2, none⟩ (.slice (some ⟨b + 2, 0, none⟩) (its.length + 1 + 1) 32)) ∧ Below tb w (w9.setCell ⟨b + 1, 2, none⟩ (.slice (some ⟨b + 2, 0, none⟩) (its.length + 1 + 1) 32)) ∧ (w9.setCell ⟨b + 1, 2, none⟩ (.slice (some ⟨b + 2, 0, none⟩) (its.length + 1 + 1) 32)).heap[tb]? = some (.cells #[ptr r2, .int .u64 0, .int .i64 (sizeL es : Nat)] 33 (0, 0))) := ⟨he9, hb9, hh9⟩
          clear hp9 he9 hb9 hh9 hrow9 HI hrowC hNC heC hvC hcC hN8 ha8 he6 hb6 hh6 kk2
          go_upto_if 180 with fail
          have k5 : (w9.setCell ⟨b + 1, 2, none⟩ (.slice (some ⟨b + 2, 0, none⟩) (its.length + 1 + 1) 32)).cell? ⟨w3.heap.size, 0, none⟩ = some (.string kx) := ((Chg.refl [b + 1] w9).setCell (.inl (by simp)) _).cell k4 (by simp; omega)
          generalize w9.setCell ⟨b + 1, 2, none⟩ (.slice (some ⟨b + 2, 0, none⟩) (its.length + 1 + 1) 32) = wz at *
          clear k4 f1 f3
          obtain ⟨hx15, hfull, hcok⟩ := HX.out
          obtain ⟨cl, cr, x, hx, e1, e2, e3, e4, _, e5, o1, o2, l1, l2, hsin⟩ := surg_split c 15 hcok hfull m
          rw [hx15] at hx
          obtain rfl := Option.some.inj hx
          obtain ⟨hw1, hw2, hw3, hw4, hw5, hw6, hw7, hw8, hw9, hw10, hw11, hw12⟩ := HW.out
          have hmn : σ' m = none := HP3.out.2.2.2.2.new (by have := HP3.out.2.1; omega)
          have hmc : m ≠ c.root := by
            rintro h
            rw [h, hcI] at hmn; cases hmn
          have hCh := hw2.child (c := c) (by simp)
          generalize hS9 : (((σ'.set c.root ⟨c.its.take 15, c.nd.kids.map (List.take 16)⟩).set m ⟨c.its.drop 16, c.nd.kids.map (List.drop 16)⟩).set b ⟨(its.take A.length ++ ([⟨kx, xa, xn, xc⟩] : List It) ++ its.drop A.length), some (((A ++ c :: C).map Tr.root).take (A.length + 1) ++ [m] ++ ((A ++ c :: C).map Tr.root).drop (A.length + 1))⟩) = σ9 at HZ
          have HS9 : Hid ((((σ'.set c.root ⟨c.its.take 15, c.nd.kids.map (List.take 16)⟩).set m ⟨c.its.drop 16, c.nd.kids.map (List.drop 16)⟩).set b ⟨(its.take A.length ++ ([⟨kx, xa, xn, xc⟩] : List It) ++ its.drop A.length), some (((A ++ c :: C).map Tr.root).take (A.length + 1) ++ [m] ++ ((A ++ c :: C).map Tr.root).drop (A.length + 1))⟩) = σ9) := hS9
          have g1 : σ9 c.root = some cl.nd := by rw [← hS9, Store.set_other _ _ hbc.symm, Store.set_other _ _ hmc.symm, Store.set_same, e3]
          have g2 : σ9 m = some cr.nd := by rw [← hS9, Store.set_other _ _ hbm.symm, Store.set_same, e4]
          have g3 : σ9 b = some ⟨(its.take A.length ++ ([⟨kx, xa, xn, xc⟩] : List It) ++ its.drop A.length), some (((A ++ c :: C).map Tr.root).take (A.length + 1) ++ [m] ++ ((A ++ c :: C).map Tr.root).drop (A.length + 1))⟩ := by rw [← hS9, Store.set_same]
          have hoth : ∀ x, x ≠ b → x ≠ m → x ≠ c.root → σ9 x = σ' x := fun x h1 h2 h3 => by rw [← hS9, Store.set_other _ _ h1, Store.set_other _ _ h2, Store.set_other _ _ h3]
          have hbnc : b ∉ c.ids := by
            intro h
            have hnd : (b :: (A ++ c :: C).flatMap Tr.ids).Nodup := hw2.once
            exact (List.nodup_cons.1 hnd).1 (List.mem_flatMap.2 ⟨c, by simp, h⟩)
          obtain ⟨i1, i2, i3, i4⟩ := hsin σ' σ9 hCh.here hCh.once hmn g1 g2 (fun x hx hne => hoth x (fun h => hbnc (h ▸ hx)) (fun h => hCh.here.ne x hx (h ▸ hmn)) hne)
          have hks2 : (((A ++ c :: C).map Tr.root).take (A.length + 1) ++ [m] ++ ((A ++ c :: C).map Tr.root).drop (A.length + 1)) = (A ++ [cl, cr] ++ C).map Tr.root := by
            have t1 : ((A ++ c :: C).map Tr.root).take (A.length + 1) = A.map Tr.root ++ [c.root] := by
              rw [List.map_append, List.map_cons]
              have := take_mid1 (A.map Tr.root) (C.map Tr.root) c.root
              rw [List.length_map] at this
              exact this
            have t2 : ((A ++ c :: C).map Tr.root).drop (A.length + 1) = C.map Tr.root := by
              rw [List.map_append, List.map_cons]
              have := drop_mid1 (A.map Tr.root) (C.map Tr.root) c.root
              rw [List.length_map] at this
              exact this
            rw [t1, t2]
            simp [e1, e2]
          have hreg := regraft (its' := its.take A.length ++ ⟨kx, xa, xn, xc⟩ :: its.drop A.length) (M := [c]) (M' := [cl, cr]) (σ' := σ9) (by rw [mid_one] at hw2; exact hw2) (by rw [g3, hks2]; simp) (fun k hk => by
            simp only [List.mem_cons, List.not_mem_nil, or_false] at hk
            rcases hk with rfl | rfl
            · exact i1
            · exact i2) (by simpa using i3) (fun x hx => by
            rcases i4 x (by simpa using hx) with h | h
            · exact .inl (by simpa using h)
            · exact .inr (h ▸ hmn)) (fun x h1 h2 h3 => hoth x h1 (fun h => h3 (h ▸ hmn)) (fun h => h2 (by simp [h, c.root_mem])))
          have q1 : A ++ [cl, cr] ++ C = A ++ cl :: cr :: C := by simp
          rw [q1, ← mid_one A C c] at hreg
          have hee : (node b (its.take A.length ++ ⟨kx, xa, xn, xc⟩ :: its.drop A.length) (A ++ cl :: cr :: C)).ents = (node b its (A ++ c :: C)).ents := by
            have hl : (A ++ c :: C).length = its.length + 1 := hkl
            have h1 := ents_at b (its.take A.length) (its.drop A.length) A C c (by rw [List.length_take]; omega) (by rw [List.length_drop]; simp at hl; omega)
            rw [List.take_append_drop] at h1
            rw [h1, ents_at2 b _ _ _ A C cl cr (by rw [List.length_take]; omega) (by rw [List.length_drop]; simp at hl; omega), e5]
            simp
          have hok2 : (node b (its.take A.length ++ ⟨kx, xa, xn, xc⟩ :: its.drop A.length) (A ++ cl :: cr :: C)).Ok m' := by
            have hm : m' ≤ its.length := hw3.1
            have hln : (its.take A.length ++ (⟨kx, xa, xn, xc⟩ : It) :: its.drop A.length).length = its.length + 1 := by simp; omega
            refine ⟨?_, ?_, ?_, ?_⟩
            · show m' ≤ (its.take A.length ++ (⟨kx, xa, xn, xc⟩ : It) :: its.drop A.length).length
              rw [hln]; omega
            · show (its.take A.length ++ (⟨kx, xa, xn, xc⟩ : It) :: its.drop A.length).length ≤ 31
              rw [hln]; omega
            · show (A ++ cl :: cr :: C).length = (its.take A.length ++ (⟨kx, xa, xn, xc⟩ : It) :: its.drop A.length).length + 1
              rw [hln]; simp at hkl ⊢; omega
            · intro k hk
              have hk' : k ∈ A ++ cl :: cr :: C := hk
              have hall : ∀ k ∈ A ++ c :: C, k.Ok 15 := hw3.2.2.2
              simp only [List.mem_append, List.mem_cons] at hk'
              rcases hk' with h | rfl | rfl | h
              · exact hall k (by simp [h])
              · exact o1
              · exact o2
              · exact hall k (by simp [h])
          have hwn := hw9.pass hreg.2 rfl hee
          have HV : Hid (Env F (tb + 1) σ9 wz ∧ Has σ9 (node b (its.take A.length ++ ⟨kx, xa, xn, xc⟩ :: its.drop A.length) (A ++ cl :: cr :: C)) ∧ (node b (its.take A.length ++ ⟨kx, xa, xn, xc⟩ :: its.drop A.length) (A ++ cl :: cr :: C)).Ok m' ∧ Sorted (node b (its.take A.length ++ ⟨kx, xa, xn, xc⟩ :: its.drop A.length) (A ++ cl :: cr :: C)).ents ∧ Below tb w wz ∧ sizeL (putL ⟨key, va, vn, vc⟩ es) + sizeL (node b (its.take A.length ++ ⟨kx, xa, xn, xc⟩ :: its.drop A.length) (A ++ cl :: cr :: C)).ents = sizeL es + sizeL (putL ⟨key, va, vn, vc⟩ (node b (its.take A.length ++ ⟨kx, xa, xn, xc⟩ :: its.drop A.length) (A ++ cl :: cr :: C)).ents) ∧ sizeL (node b (its.take A.length ++ ⟨kx, xa, xn, xc⟩ :: its.drop A.length) (A ++ cl :: cr :: C)).ents ≤ sizeL es ∧ Wand (putL ⟨key, va, vn, vc⟩) dd r2 1 1 es m' σ9 (node b (its.take A.length ++ ⟨kx, xa, xn, xc⟩ :: its.drop A.length) (A ++ cl :: cr :: C)) ∧ wz.heap[tb]? = some (.cells #[ptr r2, .int .u64 0, .int .i64 (sizeL es : Nat)] 33 (0, 0)) ∧ (node b (its.take A.length ++ ⟨kx, xa, xn, xc⟩ :: its.drop A.length) (A ++ cl :: cr :: C)).root = b) := ⟨HZ.out.1, hreg.1, hok2, by rw [hee]; exact hw5, HZ.out.2.1, by rw [hee]; exact hw7, by rw [hee]; exact hw8, hwn, HZ.out.2.2, rfl⟩
          have hsi : Sorted its := Tr.its_sorted hw3 hw5
          have HL : Hid ((∀ e ∈ its.take A.length, kc e.key key < 0) ∧ (∀ e ∈ its.drop A.length, kc key e.key < 0)) := ⟨hw11.lo, hw11.hi hsi hw12⟩
          have HO : Hid (cl.Ok 15 ∧ cr.Ok 15 ∧ cl.its.length = 15 ∧ cr.its.length = 15 ∧ cl.root = c.root ∧ cr.root = m) := ⟨o1, o2, l1, l2, e1, e2⟩
          clear hx15 hfull hcok hx hsin hS9 hoth hks2 hreg hee hok2 hwn hw1 hw2 hw3 hw4 hw5 hw6 hw7 hw8 hw9 hw10 hw11 hw12 hsi i1 i2 i3 i4 o1 o2 l1 l2 e3 e4 e5 q1 hCh g1 g2 g3 hmn hbnc HZ HW HP3 hsb1 e1 e2
          by_cases heq : key = kx
          · subst heq
            obtain ⟨t2, ht2⟩ : ∃ t2 : Tr (d' + 1), t2 = node b (its.take A.length ++ ⟨key, xa, xn, xc⟩ :: its.drop A.length) (A ++ cl :: cr :: C) := ⟨_, rfl⟩
            rw [← ht2] at HV
            have HU : Hid (Env F (tb + 1) σ9 wz ∧ Has σ9 (t2) ∧ (t2).Ok m' ∧ Sorted (t2).ents ∧ Below tb w wz ∧ sizeL (putL ⟨key, va, vn, vc⟩ es) + sizeL (t2).ents = sizeL es + sizeL (putL ⟨key, va, vn, vc⟩ (t2).ents) ∧ sizeL (t2).ents ≤ sizeL es ∧ Wand (putL ⟨key, va, vn, vc⟩) dd r2 1 1 es m' σ9 (t2) ∧ wz.heap[tb]? = some (.cells #[ptr r2, .int .u64 0, .int .i64 (sizeL es : Nat)] 33 (0, 0)) ∧ (t2).root = b) := HV
            have hti : t2.its = its.take A.length ++ ⟨key, xa, xn, xc⟩ :: its.drop A.length := by rw [ht2]; rfl
            have hy : t2.its[A.length]? = some ⟨key, xa, xn, xc⟩ := by rw [hti]; exact get_mid _ _ _ (by rw [List.length_take]; omega)
            have hNz := HU.out.1.rep b _ (by rw [← HU.out.2.2.2.2.2.2.2.2.2]; exact HU.out.2.1.here.in_root)
            have HIT : Hid (Items wz b t2.its) := by
              have := hNz.items
              rw [t2.nd_its] at this
              exact this
            have h3 : wz.cell? ⟨b + 1, 1, none⟩ = some (.slice (some ⟨b, 0, none⟩) t2.its.length 31) := by
              have := hNz.hdr
              rw [t2.nd_its] at this
              exact this
            have hl31 : t2.its.length ≤ 31 := HIT.out.len
            obtain ⟨y, hyd⟩ : ∃ y : It, y = ⟨key, xa, xn, xc⟩ := ⟨_, rfl⟩
            rw [← hyd] at hy
            have hyk : y.key = key := by rw [hyd]
            clear hti ht2 hNz HL HO HV hyd k5 HX HS9
            have hbe : (key.toList == key.toList) = true := by simp
            rw [hbe]
            clear hbe
            obtain ⟨hi, hyy⟩ := List.getElem?_eq_some_iff.1 hy
            have hat := HIT.out.at hi
            rw [hyy] at hat
            obtain ⟨ky, ya, yn, yc⟩ := y
            have hyk' : ky = key := hyk
            subst hyk'
            have hat1 : wz.cell? ⟨b, A.length * 2, none⟩ = some (.string ky) := hat.1
            have hat2 : wz.cell? ⟨b, A.length * 2 + 1, none⟩ = some (.slice ya yn yc) := hat.2
            have hfb := HIT.out.frozen (A.length * 2 + 1)
            have z2 : (A.length : Int) < ((t2).its.length : Int) := by omega
            have hh1 := HU.out.2.2.2.2.2.2.2.2.1
            have hyin : (⟨ky, ya, yn, yc⟩ : It) ∈ (t2).ents := (Tr.its_sub _ HU.out.2.2.1).subset (List.mem_of_getElem? hy)
            have hys := sizeL_mem hyin
            have hes := HU.out.2.2.2.2.2.2.1
            have hbb := HB.out.2.2
            have hyn : (yn : Int) < 4611686018427387904 := by
              have : ky.size + yn ≤ sizeL (t2).ents := hys
              omega
            have hvn : (vn : Int) < 4611686018427387904 := by omega
            have hyn0 : (0 : Int) ≤ (yn : Int) := Int.natCast_nonneg _
            have hvn0 : (0 : Int) ≤ (vn : Int) := Int.natCast_nonneg _
            have hse : (sizeL es : Int) < 4611686018427387904 := by omega
            have hse0 : (0 : Int) ≤ (sizeL es : Int) := Int.natCast_nonneg _
            have hlo := HU.out.1.lo b _ (by rw [← HU.out.2.2.2.2.2.2.2.2.2]; exact HU.out.2.1.here.in_root)
            have HY : Hid ((t2).its[A.length]? = some ⟨ky, ya, yn, yc⟩) := hy
            clear hat hyy hy hyk hyin hys hes hbb
            generalize hsz : (sizeL es : Int) = S at *
            have HSZ : Hid ((sizeL es : Int) = S) := hsz
            clear hsz
            have c2 : wz.cell? ⟨tb, 2, none⟩ = some (.int .i64 S) := (Lib.cell_of_heap hh1 2).trans rfl
            have c3 : wz.frozen? ⟨tb, 2, none⟩ = false := by simp [World.frozen?, hh1]
            have htl1 : tb < wz.heap.size := (Array.getElem?_eq_some_iff.1 hh1).1
            have htr : tb ≠ b := by omega
            have htr' : tb ≠ b + 1 := by omega
            have hlt1 : b + 1 < wz.heap.size := World.block_lt_of_cell? wz _ h3
            have HH1 : Hid (wz.heap[tb]? = some (.cells #[ptr r2, .int .u64 0, .int .i64 S] 33 (0, 0))) := hh1
            clear hh1
            go_wp2_with fail
            refine wp_region_T [0, 1, 2, 3, 4, 5, 6, 7, 8, 9, 10, 11, 12, 13, 14, 15, 16] [17, 18, 19] (fun W => (W.cell? ⟨tb, 2, none⟩ = some (.int .i64 S) ∧ W.cell? ⟨b + 1, 1, none⟩ = some (.slice (some ⟨b, 0, none⟩) (t2).its.length 31)) ∧ W.cell? ⟨b, A.length * 2 + 1, none⟩ = some (.slice ya yn yc)) 3 (by kernel_rfl) (by kernel_rfl) ⟨⟨c2, h3⟩, hat2⟩ ?_
            iterate 17 (apply wpTake_cons rfl rfl (by rfl); (next => intro W hW; have hW1 := hW.1.1; have hW2 := hW.1.2; have hW3 := hW.2; clear hW; go_simp; first | done | with_reducible rfl | (go_bits; first | done | with_reducible rfl | (go_simp; first | done | with_reducible rfl))); simp only [List.setIfInBounds_toArray, List.set_cons_zero, List.set_cons_succ])
            refine wpTake_nil ?_
            refine wpAnyT_one (r := 17) (by kernel_rfl) rfl ?_
            intro K hK
            go_simp
            refine hK.out _ _ ⟨(fun h => by cases h), ?_⟩
            clear hK K
            refine wpAnyT_one (r := 18) (by kernel_rfl) rfl ?_
            intro K hK
            go_simp
            refine hK.out _ _ ⟨(fun h => by cases h), ?_⟩
            clear hK K
            refine wpAnyT_one (r := 19) (by kernel_rfl) rfl ?_
            intro K hK
            go_simp
            refine hK.out _ _ ⟨(fun h => by cases h), ?_⟩
            clear hK K
            refine wpAnyT_done (by kernel_rfl) ?_ _
            refine NoPanic.normal ?_
            go_wp2_with fail
            have hct : Chg [tb] wz (wz.setCell ⟨tb, 2, none⟩ (.int .i64 (S + ((vn : Int) - (yn : Int))))) := (Chg.refl _ _).setCell (.inl (by simp)) _
            obtain ⟨he, hh, hok, hs, hbw, hsz, hsz2, hwand, hh1, hrb⟩ := HU.out
            have he1 := he.tree HB.out.2.1 hct
            have hsr : σ9 b = some (t2).nd := by rw [← hrb]; exact hh.here.in_root
            have hNr := he1.rep b _ hsr
            have hi1 : Items (wz.setCell ⟨tb, 2, none⟩ (.int .i64 (S + ((vn : Int) - (yn : Int))))) b (t2).its := by
              have := hNr.items
              rw [Tr.nd_its] at this
              exact this
            have hst := hi1.store hi ⟨ky, va, vn, vc⟩
            rw [setCell_self _ b (A.length * 2) (.string ky) (by
              have := (hi1.at hi).1
              rw [show (t2).its[A.length].key = ky by rw [(List.getElem?_eq_some_iff.1 HY.out).2]] at this
              exact this)] at hst
            have hcs : Chg [b] (wz.setCell ⟨tb, 2, none⟩ (.int .i64 (S + ((vn : Int) - (yn : Int))))) ((wz.setCell ⟨tb, 2, none⟩ (.int .i64 (S + ((vn : Int) - (yn : Int))))).setCell ⟨b, A.length * 2 + 1, none⟩ (.slice va vn vc)).drew := ((Chg.refl _ _).setCell (.inl (by simp)) _).drew
            have hps := hNr.set_items hcs (show Items ((wz.setCell ⟨tb, 2, none⟩ (.int .i64 (S + ((vn : Int) - (yn : Int))))).setCell ⟨b, A.length * 2 + 1, none⟩ (.slice va vn vc)).drew b _ from hst) (by rw [List.length_set, Tr.nd_its])
            have he2 := he1.turn hsr hps.2 hps.1
            have hht1 := setCell_heap (j := 2) HH1.out (.int .i64 (S + ((vn : Int) - (yn : Int))))
            have hht2 := ((he1.below hsr hps.2).block tb (Nat.lt_succ_self _)).trans hht1
            have hbf := (hbw.trans (below_tb htl1 hct)).trans ((he1.below hsr hps.2).mono (Nat.le_succ _))
            obtain ⟨L, R, hL1, hL2⟩ := Tr.ents_set (t2) hok HY.out
            have hput : putL ⟨ky, va, vn, vc⟩ (t2).ents = L ++ ⟨ky, va, vn, vc⟩ :: R := by
              rw [hL1] at hs ⊢
              exact putL_here rfl (fun e he => hs.cross (y := ⟨ky, ya, yn, yc⟩) he List.mem_cons_self) (fun e he => (List.pairwise_cons.1 hs.right).1 e he)
            have hwi := Tr.withIts_has ((t2).its.set A.length ⟨ky, va, vn, vc⟩) hh
            rw [hrb] at hwi
            have hil : ((t2).its.set A.length ⟨ky, va, vn, vc⟩).length = (t2).its.length := List.length_set
            obtain ⟨T, hT1, hT2, hT3, hT4⟩ := hwand _ _ hwi.2 hwi.1 (Tr.withIts_root _ _) ((hL2 _).trans hput.symm) (Tr.withIts_ok _ _ hok hil (by rw [hil]; exact (Tr.ok_len hok).1)) (by rw [Tr.withIts_its, hil]; omega)
            have hsize : S + ((vn : Int) - (yn : Int)) = ((sizeL (putL ⟨ky, va, vn, vc⟩ es) : Nat) : Int) := by
              rw [hput, hL1, sizeL_append, sizeL_append, sizeL_cons, sizeL_cons] at hsz
              simp only at hsz
              rw [← HSZ.out]
              omega
            refine bodyPost_ret (v := .tuple #[]) (by simp [results, Try.results27, go_sem]) rfl ⟨rfl, ⟨HB.out.1.put _, HB.out.2.1, ptr r2, ?_, .inr ⟨dd, T, _, by rw [hT2], he2, hT1, hT3, hT4⟩⟩, hbf⟩
            rw [hht2, ← hsize]
            rfl
          · have hlk2 : (key.toList == kx.toList) = false := by rw [eq_kc]; simp [heq]
            rw [hlk2]
            have hsw := kc_swap kx key
            have hne0 : kc kx key ≠ 0 := fun h => heq (kc_zero h).symm
            have HNE : Hid (¬ key = kx) := heq
            have hln : (its.take A.length ++ (⟨kx, xa, xn, xc⟩ : It) :: its.drop A.length).length = its.length + 1 := by simp; omega
            have htk : (its.take A.length).length = A.length := by rw [List.length_take]; omega
            by_cases hgt : kc kx key < 0
            · have hlk : Op.bytesLess key.toList kx.toList = false := by
                rw [less_kc]
                simp only [decide_eq_false_iff_not]
                omega
              have HG : Hid (kc kx key < 0) := hgt
              clear heq hsw hne0 hgt
              go_wp2_with fail
              have q2 : A ++ cl :: cr :: C = (A ++ [cl]) ++ cr :: C := by simp
              have hal : (A ++ [cl]).length = A.length + 1 := by simp
              obtain ⟨v1, v2, v3, v4, v5, v6, v7, v8, v9, v10⟩ := HV.out
              rw [q2] at v2 v3 v4 v6 v7 v8
              obtain ⟨p1, p2, p3, p4, p5, p6⟩ := put_down v8 v2 v3 (by rw [hln]; omega) v4 (fun e he => by
                rw [hal, show A.length + 1 = (its.take A.length).length + 1 by rw [htk], take_mid1] at he
                rcases List.mem_append.1 he with he | he
                · exact HL.out.1 e he
                · rw [List.mem_singleton.1 he]; exact HG.out) (fun e he => by
                rw [hal, show A.length + 1 = (its.take A.length).length + 1 by rw [htk], drop_mid1] at he
                exact HL.out.2 e he) v6 v7
              go_roundg (gk - 1)
              case measure => omega
              case rel => exact ⟨d', cr, 15, σ9, by rw [HO.out.2.2.2.2.2]; rfl, by omega, v9, v1, p1, p2, Nat.le_refl _, by rw [HO.out.2.2.2.1]; omega, .inr (by rw [HO.out.2.2.2.1]; omega), p3, v5, p4, p5, p6⟩
            · have hlk : Op.bytesLess key.toList kx.toList = true := by
                rw [less_kc]
                simp only [decide_eq_true_eq]
                omega
              have HG : Hid (kc key kx < 0) := by show _ < _; omega
              clear heq hsw hne0 hgt
              go_wp2_with fail
              obtain ⟨v1, v2, v3, v4, v5, v6, v7, v8, v9, v10⟩ := HV.out
              obtain ⟨p1, p2, p3, p4, p5, p6⟩ := put_down (C := cr :: C) v8 v2 v3 (by rw [hln]; omega) v4 (fun e he => by
                rw [show List.take A.length (its.take A.length ++ (⟨kx, xa, xn, xc⟩ : It) :: its.drop A.length) = its.take A.length from by
                  have := List.take_left (l₁ := its.take A.length) (l₂ := (⟨kx, xa, xn, xc⟩ : It) :: its.drop A.length)
                  rw [htk] at this; exact this] at he
                exact HL.out.1 e he) (fun e he => by
                rw [show List.drop A.length (its.take A.length ++ (⟨kx, xa, xn, xc⟩ : It) :: its.drop A.length) = (⟨kx, xa, xn, xc⟩ : It) :: its.drop A.length from by
                  have := List.drop_left (l₁ := its.take A.length) (l₂ := (⟨kx, xa, xn, xc⟩ : It) :: its.drop A.length)
                  rw [htk] at this; exact this] at he
                rcases List.mem_cons.1 he with rfl | he
                · exact HG.out
                · exact HL.out.2 e he) v6 v7
              go_roundg (gk - 1)
              case measure => omega
              case rel => exact ⟨d', cl, 15, σ9, by rw [HO.out.2.2.2.2.1]; rfl, by omega, v9, v1, p1, p2, Nat.le_refl _, by rw [HO.out.2.2.1]; omega, .inr (by rw [HO.out.2.2.1]; omega), p3, v5, p4, p5, p6⟩
        · have hfi : (c.its.length : Int) ≠ 31 := by omega
          go_wp2_with fail
          obtain ⟨p1, p2, p3, p4, p5, p6⟩ := put_down HW.out.2.2.2.2.2.2.2.2.1 HW.out.2.1 HW.out.2.2.1 HW.out.2.2.2.1 HW.out.2.2.2.2.1 HW.out.2.2.2.2.2.2.2.2.2.2.1.lo (HW.out.2.2.2.2.2.2.2.2.2.2.1.hi (Tr.its_sorted HW.out.2.2.1 HW.out.2.2.2.2.1) HW.out.2.2.2.2.2.2.2.2.2.2.2) HW.out.2.2.2.2.2.2.1 HW.out.2.2.2.2.2.2.2.1
          go_roundg (gk - 1)
          case measure => omega
          case rel => exact ⟨d', c, 15, σ', rfl, by omega, hh2, he2, p1, p2, Nat.le_refl _, by have := (c.ok_len p2).2; omega, .inr (by have := (c.ok_len p2).1; omega), p3, hbw2, p4, p5, p6⟩
end Go.Proofs.Qxb6603401a
