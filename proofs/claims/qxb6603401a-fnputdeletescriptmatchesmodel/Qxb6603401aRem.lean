import Derived.Test.Qxb6603401aEndW
namespace Go.Proofs.Qxb6603401a
open Go Go.RowKit
set_option linter.unusedSimpArgs false
set_option linter.unusedVariables false

set_option maxHeartbeats 8000000 in
set_option maxRecDepth 100000 in
theorem removeEnd_last {d : Nat} (F : Keep) (tb : Nat) (t : Tr d) (σ : Store) (w : World) (hg : Gen tb w) (he : Env F (tb + 1) σ w) (hh : Has σ t) (hok : t.Ok 16) :
    Calls Try.prog 52 #[.pointer (some ⟨tb, 0, none⟩), ptr t.root, .bool true] w fun e w' => ∃ (x : It) (T : Tr d) (σ' : Store), e = .returned (.agg #[.string x.key, x.val]) ∧ Env F (tb + 1) σ' w' ∧ Has σ' T ∧ Upd σ σ' t.ids T.ids ∧ T.root = t.root ∧ T.Ok 15 ∧ t.ents = endE true T.ents x ∧ Below (tb + 1) w w' := by
  have hnn := notnil77
  have hcv : Chg [] w (w.alloc (.cells #[.string ⟨#[]⟩, .slice none 0 0] 82)) := (Chg.refl _ _).alloc _
  have hvv : (w.alloc (.cells #[.string ⟨#[]⟩, .slice none 0 0] 82)).heap[w.heap.size]? = some (.cells #[.string ⟨#[]⟩, .slice none 0 0] 82 (0, 0)) := heap_alloc_new w _
  have he1 : Env (F.put w.heap.size (.cells #[.string ⟨#[]⟩, .slice none 0 0] 82)) (tb + 1) σ (w.alloc (.cells #[.string ⟨#[]⟩, .slice none 0 0] 82)) := (he.chg0 hcv).keepPut hvv (by simp) (by decide) (by decide)
  have hb1 : Below (tb + 1) w (w.alloc (.cells #[.string ⟨#[]⟩, .slice none 0 0] 82)) := below0 he.size hcv
  have hfr : F w.heap.size = none := he.fresh (Nat.le_refl _)
  have HE : Hid (Env F (tb + 1) σ w ∧ Has σ t ∧ t.Ok 16 ∧ Gen tb w ∧ F w.heap.size = none) := ⟨he, hh, hok, hg, hfr⟩
  unfold ptr
  generalize hrt : t.root = rt
  have HRT : Hid (t.root = rt) := hrt
  clear hfr he hg hrt
  go_enter Try.func52, Try.ntmps52
  go_wp2_with fail
  generalize hw1 : w.alloc (.cells #[.string ⟨#[]⟩, .slice none 0 0] 82) = w1 at *
  clear hw1
  go_loopg [1] (d + 1) (fun g x wr => ∃ (d' : Nat) (t' : Tr d') (σ' : Store), x = ptr t'.root ∧ d' < g ∧ Env (F.put w.heap.size (.cells #[.string ⟨#[]⟩, .slice none 0 0] 82)) (tb + 1) σ' wr ∧ Has σ' t' ∧ t'.Ok 16 ∧ Below (tb + 1) w wr ∧ EndW true t σ σ' t')
  case atStart =>
    refine ⟨d, t, σ, by rw [HRT.out]; rfl, Nat.lt_succ_self _, he1, hh, hok, hb1, ?_⟩
    intro t2 σ2 x hu h2 hr ho hen
    exact ⟨t2, h2, hu, hr, ho, hen⟩
  case round =>
    clear he1 hh hok hb1 hcv hvv
    obtain ⟨d', t', σ', rfl, hgk, he, hh, hok, hbw, hw⟩ := hrel
    have hN := he.rep _ _ hh.here.in_root
    have h1 : wr.cell? ⟨t'.root + 1, 1, none⟩ = some (.slice (some ⟨t'.root, 0, none⟩) t'.its.length 31) := by
      have := hN.hdr
      rw [t'.nd_its] at this
      exact this
    have h2 := hN.khdr
    have hgen : Gen tb wr := HE.out.2.2.2.1.later hbw (Nat.lt_succ_self _)
    cases d' with
    | succ d' =>
      obtain ⟨b, its, ks⟩ := t'
      · have hkl0 : ks.length = its.length + 1 := hok.2.2.1
        have h16 : 16 ≤ its.length := hok.1
        have h31 : its.length ≤ 31 := hok.2.1
        obtain ⟨A, c, hks⟩ := snoc_of (l := ks) (by intro h; subst h; have := hok.2.2.1; simp at this)
        have hks : ks = A ++ c :: [] := hks
        subst hks
        have hAl : A.length = its.length := by simp at hkl0; omega
        have h2' : wr.cell? ⟨b + 1, 2, none⟩ = some (.slice (some ⟨b + 2, 0, none⟩) (its.length + 1) 32) := by
          have : wr.cell? ⟨b + 1, 2, none⟩ = some (.slice (some ⟨b + 2, 0, none⟩) ((A ++ c :: []).map Tr.root).length 32) := h2
          rw [List.length_map, hkl0] at this
          exact this
        have HG := grow_tree (F.put w.heap.size (.cells #[.string ⟨#[]⟩, .slice none 0 0] 82)) (tb + 1) tb b its A c [] σ' wr hgen (Nat.lt_succ_self _) he hh hkl0 (by omega) hok.2.2.2
        rw [hAl] at HG
        have HT : Hid (Below (tb + 1) w wr ∧ EndW true t σ σ' (node b its (A ++ c :: [])) ∧ (A ++ c :: []).length = its.length + 1) := ⟨hbw, hw, hkl0⟩
        show Code.wp Try.prog _ _ _ _
        simp only [show Tr.root (d := d' + 1) (b, its, A ++ c :: []) = b from rfl]
        unfold ptr at *
        clear hN h1 h2 hgen he hh hok hbw hw hkl0 hAl
        go_wp2_with fail
        refine HG.mono ?_
        rintro e w2 ⟨its', A', c', C', σ2, rfl, he2, hb2, hgr⟩
        go_wp2_with fail
        have hc16 : c'.Ok 16 := c'.ok_mono (hgr.ok c' (by simp)) hgr.full
        go_roundg (gk - 1)
        case measure => omega
        case rel => exact ⟨d', c', σ2, rfl, by omega, he2, hgr.has.child (by simp), hc16, HT.out.1.trans hb2, HT.out.2.1.down hgr HT.out.2.2 h16 h31 (by simp)⟩
    | zero =>
      obtain ⟨b, its⟩ := t'
      obtain ⟨a, x, hax⟩ := snoc_of (l := its) (by intro h; subst h; have := hok.1; simp at this)
      subst hax
      have h16 : 15 ≤ a.length := by have : 16 ≤ (a ++ [x]).length := hok.1; simp at this; omega
      have h31 : a.length + 1 ≤ 31 := by have : (a ++ [x]).length ≤ 31 := hok.2; simp at this; omega
      have h2' : wr.cell? ⟨b + 1, 2, none⟩ = some (.slice none 0 0) := h2
      have h1' : wr.cell? ⟨b + 1, 1, none⟩ = some (.slice (some ⟨b, 0, none⟩) (a.length + 1) 31) := by
        have : wr.cell? ⟨b + 1, 1, none⟩ = some (.slice (some ⟨b, 0, none⟩) (a ++ [x]).length 31) := h1
        simp only [List.length_append, List.length_singleton, List.length_cons] at this
        exact this
      have hit : Items wr b (a ++ [x]) := hN.items
      have hat := hit.at (i := a.length) (by simp)
      rw [show (a ++ [x])[a.length]'(by simp) = x by simp] at hat
      obtain ⟨k, va, vn, vc⟩ := x
      have c1 : wr.cell? ⟨b, a.length * 2, none⟩ = some (.string k) := hat.1
      have c2 : wr.cell? ⟨b, a.length * 2 + 1, none⟩ = some (.slice va vn vc) := hat.2
      have hcV : Chg [] wr (wr.alloc (.cells #[.string k, .slice va vn vc] 82)) := (Chg.refl _ _).alloc _
      have hvV : (wr.alloc (.cells #[.string k, .slice va vn vc] 82)).heap[wr.heap.size]? = some (.cells #[.string k, .slice va vn vc] 82 (0, 0)) := heap_alloc_new wr _
      have heV := he.chg0 hcV
      have hrv := heV.keep w.heap.size _ (Keep.put_same _ _ _)
      have hNV := heV.rep b _ hh.here.in_root
      have hbrv : ∀ y ∈ Nd.blocks b ⟨a ++ [⟨k, va, vn, vc⟩], none⟩, y ≠ w.heap.size := fun y hy e => by
        subst e
        exact heV.apartF hNV (Keep.put_same _ _ _) hy
      have hb0 : b ≠ w.heap.size := hbrv b (by simp [Nd.blocks])
      have hb1 : b + 1 ≠ w.heap.size := hbrv (b + 1) (by simp [Nd.blocks])
      have hblt : b + 1 < wr.heap.size := hN.lt
      have hrvlt : w.heap.size < wr.heap.size := (Array.getElem?_eq_some_iff.1 (he.keep w.heap.size _ (Keep.put_same _ _ _))).1
      have hrow : RowOf 82 62 (wr.alloc (.cells #[.string k, .slice va vn vc] 82)) b (flat a ++ flat [⟨k, va, vn, vc⟩] ++ []) := by
        have : RowOf 82 62 (wr.alloc (.cells #[.string k, .slice va vn vc] 82)) b (flat (a ++ [⟨k, va, vn, vc⟩])) := hNV.items
        rw [flat_append] at this
        simpa using this
      have HD := delete82 b (a.length + 1) a.length _ _ _ (wr.alloc (.cells #[.string k, .slice va vn vc] 82)) hrow (by omega) (by omega) (by rw [flat_length]) (by rw [flat_length]; rfl) (by simp) (by simp)
      have hzz : (0 : Int) ≤ (a.length : Int) := Int.natCast_nonneg _
      have HT : Hid (Env (F.put w.heap.size (.cells #[.string ⟨#[]⟩, .slice none 0 0] 82)) (tb + 1) σ' (wr.alloc (.cells #[.string k, .slice va vn vc] 82)) ∧ Has σ' (leaf b (a ++ [⟨k, va, vn, vc⟩])) ∧ Below (tb + 1) w wr ∧ EndW true t σ σ' (leaf b (a ++ [⟨k, va, vn, vc⟩])) ∧ Chg [] wr (wr.alloc (.cells #[.string k, .slice va vn vc] 82))) := ⟨heV, hh, hbw, hw, hcV⟩
      simp only [show Tr.root (d := 0) (b, a ++ [⟨k, va, vn, vc⟩]) = b from rfl]
      unfold ptr
      clear hN h1 h2 he hh hok hbw hw hat hit hNV heV hrow hbrv
      go_wp2_with fail
      generalize hwV : (wr.alloc (.cells #[.string k, .slice va vn vc] 82)) = wV at *
      clear hwV
      refine HD.mono ?_
      rintro e w4 ⟨rfl, hrow4, hc4⟩
      obtain ⟨heV, hh, hbw, hw, hcV'⟩ := HT.out
      have hNV := heV.rep b _ hh.here.in_root
      have f1 : w4.cell? ⟨b + 1, 1, none⟩ = some (.slice (some ⟨b, 0, none⟩) (a.length + 1) 31) := hc4.cell (hcV.cell h1' (by simp)) (by simp)
      have f3 := hc4.free (hNV.free 1) hNV.lt (by simp)
      have k0 := hc4.heap hrv (by simp; omega)
      have k1 := hc4.heap hvV (by simp; omega)
      have d1 : w4.cell? ⟨wr.heap.size, 0, none⟩ = some (.string k) := (Lib.cell_of_heap k1 0).trans rfl
      have d2 : w4.cell? ⟨wr.heap.size, 1, none⟩ = some (.slice va vn vc) := (Lib.cell_of_heap k1 1).trans rfl
      have d3 : w4.frozen? ⟨w.heap.size, 0, none⟩ = false := by simp [World.frozen?, k0]
      have d4 : w4.frozen? ⟨w.heap.size, 1, none⟩ = false := by simp [World.frozen?, k0]
      have d5 : w4.cell? ⟨w.heap.size, 0, none⟩ = some (.string ⟨#[]⟩) := (Lib.cell_of_heap k0 0).trans rfl
      have d6 : w4.cell? ⟨w.heap.size, 1, none⟩ = some (.slice none 0 0) := (Lib.cell_of_heap k0 1).trans rfl
      have lt5 : w.heap.size < w4.heap.size := World.block_lt_of_cell? w4 _ d5
      have lt6 : b + 1 < w4.heap.size := World.block_lt_of_cell? w4 _ f1
      have ne1 : b + 1 ≠ wr.heap.size := by omega
      have ne2 : wr.heap.size ≠ b + 1 := by omega
      have ne3 : w.heap.size ≠ b + 1 := by omega
      have hit4 : Items w4 b a := by
        unfold Items
        rw [List.append_nil] at hrow4
        exact hrow4
      have hp4 := hNV.put_items hc4 hit4 (n := a.length) rfl
      have hsb : σ' b = some ⟨a ++ [⟨k, va, vn, vc⟩], none⟩ := hh.here
      have he4 := heV.turn hsb hp4.2 hp4.1
      have hbf := (hbw.trans (below0 (Nat.le_trans HE.out.1.size hbw.size) hcV)).trans (heV.below hsb hp4.2)
      have HZ : Hid (Env (F.put w.heap.size (.cells #[.string ⟨#[]⟩, .slice none 0 0] 82)) (tb + 1) (σ'.set b ⟨a, none⟩) (w4.setCell ⟨b + 1, 1, none⟩ (.slice (some ⟨b, 0, none⟩) a.length 31)) ∧ Below (tb + 1) w (w4.setCell ⟨b + 1, 1, none⟩ (.slice (some ⟨b, 0, none⟩) a.length 31))) := ⟨he4, hbf⟩
      clear hp4 he4 hbf hit4 hrow4 hc4 k0 k1 heV hh hbw hw hcV' hNV
      go_wp2_with fail
      obtain ⟨heV, hh, hbw, hw, hcV'⟩ := HT.out
      obtain ⟨he4, hbf⟩ := HZ.out
      generalize w4.setCell ⟨b + 1, 1, none⟩ (.slice (some ⟨b, 0, none⟩) a.length 31) = w5 at *
      have q0 := he4.keep w.heap.size _ (Keep.put_same _ _ _)
      have q1 := setCell_heap (j := 1) (setCell_heap (j := 0) q0 (.string k)) (.slice va vn vc)
      have hc6 : Chg [w.heap.size] w5 ((w5.setCell ⟨w.heap.size, 0, none⟩ (.string k)).setCell ⟨w.heap.size, 1, none⟩ (.slice va vn vc)) := ((Chg.refl _ _).setCell (.inl (by simp)) _).setCell (.inl (by simp)) _
      generalize ((w5.setCell ⟨w.heap.size, 0, none⟩ (.string k)).setCell ⟨w.heap.size, 1, none⟩ (.slice va vn vc)) = w6 at *
      have g0 : w6.cell? ⟨w.heap.size, 0, none⟩ = some (.string k) := (Lib.cell_of_heap q1 0).trans rfl
      have g1 : w6.cell? ⟨w.heap.size, 1, none⟩ = some (.slice va vn vc) := (Lib.cell_of_heap q1 1).trans rfl
      have hwi := Tr.withIts_has (t := leaf b (a ++ [⟨k, va, vn, vc⟩])) a hh
      obtain ⟨T, t1, t2, t3, t4, t5⟩ := hw (leaf b a) (σ'.set b ⟨a, none⟩) ⟨k, va, vn, vc⟩ hwi.2 hwi.1 rfl ⟨h16, by show a.length ≤ 31; omega⟩ rfl
      have hsz0 : tb + 1 ≤ w.heap.size := HE.out.1.size
      refine bodyPost_ret (v := .agg #[.string k, .slice va vn vc]) (by simp [results, Try.results52, go_sem, g0, g1]; done) rfl ⟨⟨k, va, vn, vc⟩, T, σ'.set b ⟨a, none⟩, rfl, ?_, t1, t2, by rw [t3, HRT.out], t4, t5, ?_⟩
      · refine (he4.keepLess (F := F) (fun x o hx => ?_)).aside hc6 (fun b2 nd hs x hx hx2 => ?_) (fun x o hx hx2 => ?_)
        · rw [Keep.put_other]
          · exact hx
          · rintro rfl
            rw [HE.out.2.2.2.2] at hx; cases hx
        · simp only [List.mem_singleton] at hx2
          subst hx2
          exact he4.apartF (he4.rep b2 nd hs) (Keep.put_same _ _ _) hx
        · simp only [List.mem_singleton] at hx2
          subst hx2
          rw [HE.out.2.2.2.2] at hx; cases hx
      · exact hbf.trans (hc6.below (Nat.le_trans hsz0 hbf.size) (fun x hx => by simp only [List.mem_singleton] at hx; omega))

set_option maxHeartbeats 8000000 in
set_option maxRecDepth 100000 in
theorem removeEnd_first {d : Nat} (F : Keep) (tb : Nat) (t : Tr d) (σ : Store) (w : World) (hg : Gen tb w) (he : Env F (tb + 1) σ w) (hh : Has σ t) (hok : t.Ok 16) :
    Calls Try.prog 52 #[.pointer (some ⟨tb, 0, none⟩), ptr t.root, .bool false] w fun e w' => ∃ (x : It) (T : Tr d) (σ' : Store), e = .returned (.agg #[.string x.key, x.val]) ∧ Env F (tb + 1) σ' w' ∧ Has σ' T ∧ Upd σ σ' t.ids T.ids ∧ T.root = t.root ∧ T.Ok 15 ∧ t.ents = endE false T.ents x ∧ Below (tb + 1) w w' := by
  have hnn := notnil77
  have hcv : Chg [] w (w.alloc (.cells #[.string ⟨#[]⟩, .slice none 0 0] 82)) := (Chg.refl _ _).alloc _
  have hvv : (w.alloc (.cells #[.string ⟨#[]⟩, .slice none 0 0] 82)).heap[w.heap.size]? = some (.cells #[.string ⟨#[]⟩, .slice none 0 0] 82 (0, 0)) := heap_alloc_new w _
  have he1 : Env (F.put w.heap.size (.cells #[.string ⟨#[]⟩, .slice none 0 0] 82)) (tb + 1) σ (w.alloc (.cells #[.string ⟨#[]⟩, .slice none 0 0] 82)) := (he.chg0 hcv).keepPut hvv (by simp) (by decide) (by decide)
  have hb1 : Below (tb + 1) w (w.alloc (.cells #[.string ⟨#[]⟩, .slice none 0 0] 82)) := below0 he.size hcv
  have hfr : F w.heap.size = none := he.fresh (Nat.le_refl _)
  have HE : Hid (Env F (tb + 1) σ w ∧ Has σ t ∧ t.Ok 16 ∧ Gen tb w ∧ F w.heap.size = none) := ⟨he, hh, hok, hg, hfr⟩
  unfold ptr
  generalize hrt : t.root = rt
  have HRT : Hid (t.root = rt) := hrt
  clear hfr he hg hrt
  go_enter Try.func52, Try.ntmps52
  go_wp2_with fail
  generalize hw1 : w.alloc (.cells #[.string ⟨#[]⟩, .slice none 0 0] 82) = w1 at *
  clear hw1
  go_loopg [1] (d + 1) (fun g x wr => ∃ (d' : Nat) (t' : Tr d') (σ' : Store), x = ptr t'.root ∧ d' < g ∧ Env (F.put w.heap.size (.cells #[.string ⟨#[]⟩, .slice none 0 0] 82)) (tb + 1) σ' wr ∧ Has σ' t' ∧ t'.Ok 16 ∧ Below (tb + 1) w wr ∧ EndW false t σ σ' t')
  case atStart =>
    refine ⟨d, t, σ, by rw [HRT.out]; rfl, Nat.lt_succ_self _, he1, hh, hok, hb1, ?_⟩
    intro t2 σ2 x hu h2 hr ho hen
    exact ⟨t2, h2, hu, hr, ho, hen⟩
  case round =>
    clear he1 hh hok hb1 hcv hvv
    obtain ⟨d', t', σ', rfl, hgk, he, hh, hok, hbw, hw⟩ := hrel
    have hN := he.rep _ _ hh.here.in_root
    have h1 : wr.cell? ⟨t'.root + 1, 1, none⟩ = some (.slice (some ⟨t'.root, 0, none⟩) t'.its.length 31) := by
      have := hN.hdr
      rw [t'.nd_its] at this
      exact this
    have h2 := hN.khdr
    have hgen : Gen tb wr := HE.out.2.2.2.1.later hbw (Nat.lt_succ_self _)
    cases d' with
    | succ d' =>
      obtain ⟨b, its, ks⟩ := t'
      · have hkl0 : ks.length = its.length + 1 := hok.2.2.1
        have h16 : 16 ≤ its.length := hok.1
        have h31 : its.length ≤ 31 := hok.2.1
        obtain ⟨c, C, hks⟩ := cons_of (l := ks) (by intro h; subst h; have := hok.2.2.1; simp at this)
        have hks : ks = [] ++ c :: C := hks
        subst hks
        have h2' : wr.cell? ⟨b + 1, 2, none⟩ = some (.slice (some ⟨b + 2, 0, none⟩) (its.length + 1) 32) := by
          have : wr.cell? ⟨b + 1, 2, none⟩ = some (.slice (some ⟨b + 2, 0, none⟩) (([] ++ c :: C).map Tr.root).length 32) := h2
          rw [List.length_map, hkl0] at this
          exact this
        have HG := grow_tree (F.put w.heap.size (.cells #[.string ⟨#[]⟩, .slice none 0 0] 82)) (tb + 1) tb b its [] c C σ' wr hgen (Nat.lt_succ_self _) he hh hkl0 (by omega) hok.2.2.2
        have hz0 : ((([] : List (Tr d')).length : Nat) : Int) = 0 := rfl
        rw [hz0] at HG
        have HT : Hid (Below (tb + 1) w wr ∧ EndW false t σ σ' (node b its ([] ++ c :: C)) ∧ ([] ++ c :: C).length = its.length + 1) := ⟨hbw, hw, hkl0⟩
        show Code.wp Try.prog _ _ _ _
        simp only [show Tr.root (d := d' + 1) (b, its, [] ++ c :: C) = b from rfl]
        unfold ptr at *
        clear hN h1 h2 hgen he hh hok hbw hw hkl0
        go_wp2_with fail
        refine HG.mono ?_
        rintro e w2 ⟨its', A', c', C', σ2, rfl, he2, hb2, hgr⟩
        go_wp2_with fail
        have hc16 : c'.Ok 16 := c'.ok_mono (hgr.ok c' (by simp)) hgr.full
        go_roundg (gk - 1)
        case measure => omega
        case rel => exact ⟨d', c', σ2, rfl, by omega, he2, hgr.has.child (by simp), hc16, HT.out.1.trans hb2, HT.out.2.1.down hgr HT.out.2.2 h16 h31 (by simp)⟩
    | zero =>
      obtain ⟨b, its⟩ := t'
      obtain ⟨x, a, hax⟩ := cons_of (l := its) (by intro h; subst h; have := hok.1; simp at this)
      subst hax
      have h16 : 15 ≤ a.length := by have : 16 ≤ (x :: a).length := hok.1; simp at this; omega
      have h31 : a.length + 1 ≤ 31 := by have : (x :: a).length ≤ 31 := hok.2; simp at this; omega
      have h2' : wr.cell? ⟨b + 1, 2, none⟩ = some (.slice none 0 0) := h2
      have h1' : wr.cell? ⟨b + 1, 1, none⟩ = some (.slice (some ⟨b, 0, none⟩) (a.length + 1) 31) := by
        have : wr.cell? ⟨b + 1, 1, none⟩ = some (.slice (some ⟨b, 0, none⟩) (x :: a).length 31) := h1
        simp only [List.length_append, List.length_singleton, List.length_cons] at this
        exact this
      have hit : Items wr b (x :: a) := hN.items
      have hat := hit.at (i := 0) (by simp)
      rw [show (x :: a)[0]'(by simp) = x by simp] at hat
      obtain ⟨k, va, vn, vc⟩ := x
      have c1 : wr.cell? ⟨b, 0, none⟩ = some (.string k) := hat.1
      have c2 : wr.cell? ⟨b, 1, none⟩ = some (.slice va vn vc) := hat.2
      have hcV : Chg [] wr (wr.alloc (.cells #[.string k, .slice va vn vc] 82)) := (Chg.refl _ _).alloc _
      have hvV : (wr.alloc (.cells #[.string k, .slice va vn vc] 82)).heap[wr.heap.size]? = some (.cells #[.string k, .slice va vn vc] 82 (0, 0)) := heap_alloc_new wr _
      have heV := he.chg0 hcV
      have hrv := heV.keep w.heap.size _ (Keep.put_same _ _ _)
      have hNV := heV.rep b _ hh.here.in_root
      have hbrv : ∀ y ∈ Nd.blocks b ⟨⟨k, va, vn, vc⟩ :: a, none⟩, y ≠ w.heap.size := fun y hy e => by
        subst e
        exact heV.apartF hNV (Keep.put_same _ _ _) hy
      have hb0 : b ≠ w.heap.size := hbrv b (by simp [Nd.blocks])
      have hb1 : b + 1 ≠ w.heap.size := hbrv (b + 1) (by simp [Nd.blocks])
      have hblt : b + 1 < wr.heap.size := hN.lt
      have hrvlt : w.heap.size < wr.heap.size := (Array.getElem?_eq_some_iff.1 (he.keep w.heap.size _ (Keep.put_same _ _ _))).1
      have hrow : RowOf 82 62 (wr.alloc (.cells #[.string k, .slice va vn vc] 82)) b ([] ++ flat [⟨k, va, vn, vc⟩] ++ flat a) := by
        have : RowOf 82 62 (wr.alloc (.cells #[.string k, .slice va vn vc] 82)) b (flat (⟨k, va, vn, vc⟩ :: a)) := hNV.items
        rw [List.nil_append, ← flat_append]
        exact this
      have HD := delete82 b (a.length + 1) 0 _ _ _ (wr.alloc (.cells #[.string k, .slice va vn vc] 82)) hrow (by omega) (by omega) (by rfl) (by rw [flat_length]; rfl) (by rw [flat_length]; omega) (flat_one_cell _)
      have ecz : (((0 : Nat) : Int)) + 1 = 1 := rfl
      rw [ecz] at HD
      have HT : Hid (Env (F.put w.heap.size (.cells #[.string ⟨#[]⟩, .slice none 0 0] 82)) (tb + 1) σ' (wr.alloc (.cells #[.string k, .slice va vn vc] 82)) ∧ Has σ' (leaf b (⟨k, va, vn, vc⟩ :: a)) ∧ Below (tb + 1) w wr ∧ EndW false t σ σ' (leaf b (⟨k, va, vn, vc⟩ :: a)) ∧ Chg [] wr (wr.alloc (.cells #[.string k, .slice va vn vc] 82))) := ⟨heV, hh, hbw, hw, hcV⟩
      simp only [show Tr.root (d := 0) (b, ⟨k, va, vn, vc⟩ :: a) = b from rfl]
      unfold ptr
      clear hN h1 h2 he hh hok hbw hw hat hit hNV heV hrow hbrv
      go_wp2_with fail
      generalize hwV : (wr.alloc (.cells #[.string k, .slice va vn vc] 82)) = wV at *
      clear hwV
      refine HD.mono ?_
      rintro e w4 ⟨rfl, hrow4, hc4⟩
      obtain ⟨heV, hh, hbw, hw, hcV'⟩ := HT.out
      have hNV := heV.rep b _ hh.here.in_root
      have f1 : w4.cell? ⟨b + 1, 1, none⟩ = some (.slice (some ⟨b, 0, none⟩) (a.length + 1) 31) := hc4.cell (hcV.cell h1' (by simp)) (by simp)
      have f3 := hc4.free (hNV.free 1) hNV.lt (by simp)
      have k0 := hc4.heap hrv (by simp; omega)
      have k1 := hc4.heap hvV (by simp; omega)
      have d1 : w4.cell? ⟨wr.heap.size, 0, none⟩ = some (.string k) := (Lib.cell_of_heap k1 0).trans rfl
      have d2 : w4.cell? ⟨wr.heap.size, 1, none⟩ = some (.slice va vn vc) := (Lib.cell_of_heap k1 1).trans rfl
      have d3 : w4.frozen? ⟨w.heap.size, 0, none⟩ = false := by simp [World.frozen?, k0]
      have d4 : w4.frozen? ⟨w.heap.size, 1, none⟩ = false := by simp [World.frozen?, k0]
      have d5 : w4.cell? ⟨w.heap.size, 0, none⟩ = some (.string ⟨#[]⟩) := (Lib.cell_of_heap k0 0).trans rfl
      have d6 : w4.cell? ⟨w.heap.size, 1, none⟩ = some (.slice none 0 0) := (Lib.cell_of_heap k0 1).trans rfl
      have lt5 : w.heap.size < w4.heap.size := World.block_lt_of_cell? w4 _ d5
      have lt6 : b + 1 < w4.heap.size := World.block_lt_of_cell? w4 _ f1
      have ne1 : b + 1 ≠ wr.heap.size := by omega
      have ne2 : wr.heap.size ≠ b + 1 := by omega
      have ne3 : w.heap.size ≠ b + 1 := by omega
      have hit4 : Items w4 b a := by
        unfold Items
        rw [List.nil_append] at hrow4
        exact hrow4
      have hp4 := hNV.put_items hc4 hit4 (n := a.length) rfl
      have hsb : σ' b = some ⟨⟨k, va, vn, vc⟩ :: a, none⟩ := hh.here
      have he4 := heV.turn hsb hp4.2 hp4.1
      have hbf := (hbw.trans (below0 (Nat.le_trans HE.out.1.size hbw.size) hcV)).trans (heV.below hsb hp4.2)
      have HZ : Hid (Env (F.put w.heap.size (.cells #[.string ⟨#[]⟩, .slice none 0 0] 82)) (tb + 1) (σ'.set b ⟨a, none⟩) (w4.setCell ⟨b + 1, 1, none⟩ (.slice (some ⟨b, 0, none⟩) a.length 31)) ∧ Below (tb + 1) w (w4.setCell ⟨b + 1, 1, none⟩ (.slice (some ⟨b, 0, none⟩) a.length 31))) := ⟨he4, hbf⟩
      clear hp4 he4 hbf hit4 hrow4 hc4 k0 k1 heV hh hbw hw hcV' hNV
      go_wp2_with fail
      obtain ⟨heV, hh, hbw, hw, hcV'⟩ := HT.out
      obtain ⟨he4, hbf⟩ := HZ.out
      generalize w4.setCell ⟨b + 1, 1, none⟩ (.slice (some ⟨b, 0, none⟩) a.length 31) = w5 at *
      have q0 := he4.keep w.heap.size _ (Keep.put_same _ _ _)
      have q1 := setCell_heap (j := 1) (setCell_heap (j := 0) q0 (.string k)) (.slice va vn vc)
      have hc6 : Chg [w.heap.size] w5 ((w5.setCell ⟨w.heap.size, 0, none⟩ (.string k)).setCell ⟨w.heap.size, 1, none⟩ (.slice va vn vc)) := ((Chg.refl _ _).setCell (.inl (by simp)) _).setCell (.inl (by simp)) _
      generalize ((w5.setCell ⟨w.heap.size, 0, none⟩ (.string k)).setCell ⟨w.heap.size, 1, none⟩ (.slice va vn vc)) = w6 at *
      have g0 : w6.cell? ⟨w.heap.size, 0, none⟩ = some (.string k) := (Lib.cell_of_heap q1 0).trans rfl
      have g1 : w6.cell? ⟨w.heap.size, 1, none⟩ = some (.slice va vn vc) := (Lib.cell_of_heap q1 1).trans rfl
      have hwi := Tr.withIts_has (t := leaf b (⟨k, va, vn, vc⟩ :: a)) a hh
      obtain ⟨T, t1, t2, t3, t4, t5⟩ := hw (leaf b a) (σ'.set b ⟨a, none⟩) ⟨k, va, vn, vc⟩ hwi.2 hwi.1 rfl ⟨h16, by show a.length ≤ 31; omega⟩ rfl
      have hsz0 : tb + 1 ≤ w.heap.size := HE.out.1.size
      refine bodyPost_ret (v := .agg #[.string k, .slice va vn vc]) (by simp [results, Try.results52, go_sem, g0, g1]; done) rfl ⟨⟨k, va, vn, vc⟩, T, σ'.set b ⟨a, none⟩, rfl, ?_, t1, t2, by rw [t3, HRT.out], t4, t5, ?_⟩
      · refine (he4.keepLess (F := F) (fun x o hx => ?_)).aside hc6 (fun b2 nd hs x hx hx2 => ?_) (fun x o hx hx2 => ?_)
        · rw [Keep.put_other]
          · exact hx
          · rintro rfl
            rw [HE.out.2.2.2.2] at hx; cases hx
        · simp only [List.mem_singleton] at hx2
          subst hx2
          exact he4.apartF (he4.rep b2 nd hs) (Keep.put_same _ _ _) hx
        · simp only [List.mem_singleton] at hx2
          subst hx2
          rw [HE.out.2.2.2.2] at hx; cases hx
      · exact hbf.trans (hc6.below (Nat.le_trans hsz0 hbf.size) (fun x hx => by simp only [List.mem_singleton] at hx; omega))
end Go.Proofs.Qxb6603401a
