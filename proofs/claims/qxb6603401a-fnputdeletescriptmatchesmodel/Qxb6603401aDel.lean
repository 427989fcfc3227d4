import Derived.Test.Qxb6603401aDelW
import Derived.Test.Qxb6603401aPut
namespace Go.Proofs.Qxb6603401a
open Go Go.RowKit
set_option linter.unusedSimpArgs false
set_option linter.unusedVariables false

set_option maxHeartbeats 8000000 in
set_option maxRecDepth 100000 in
theorem delete_tree (F : Keep) (tb : Nat) (key : ByteArray) (w : World) (es : List It) (h : TreeAt F tb w es) (hb : sizeL es < 4611686018427387904) :
    Calls Try.prog 24 #[.pointer (some ⟨tb, 0, none⟩), .string key] w fun e w' => e = .returned (.tuple #[]) ∧ TreeAt F tb w' (delL key es) ∧ Below tb w w' := by
  have HG := get_tree F tb key w es h
  have H : Hid (TreeAt F tb w es) := h
  have htl : tb < w.heap.size := by
    obtain ⟨root, h1, _⟩ := h.is
    exact (Array.getElem?_eq_some_iff.1 h1).1
  clear h
  cases hlk : look key es with
  | none =>
    rw [hlk] at HG
    have HN : Hid (∀ e ∈ es, e.key ≠ key) := look_absent hlk
    clear hlk
    go_enter Try.func24, Try.ntmps24
    go_wp2_with fail
    refine HG.mono ?_
    rintro e w1 ⟨rfl, hc1⟩
    go_wp2_with fail
    refine bodyPost_ret (v := .tuple #[]) (by simp [results, Try.results24, go_sem]) rfl ⟨rfl, ?_, below0 (Nat.le_of_lt htl) hc1⟩
    rw [delL_none HN.out]
    exact H.out.chg0 hc1
  | some y =>
    rw [hlk] at HG
    obtain ⟨hyin, hyk⟩ := look_some hlk
    have hsd := sizeL_del H.out.sorted hyin
    have hym := sizeL_mem hyin
    obtain ⟨ky, ya, yn, yc⟩ := y
    have hyk' : ky = key := hyk
    subst hyk'
    have hsd' : sizeL (delL ky es) + (ky.size + yn) = sizeL es := hsd
    obtain ⟨root, hh0, hroot⟩ := H.out.is
    obtain ⟨dd, tt, σ, rfl, he, hh, hok, hen⟩ : ∃ (d : Nat) (t : Tr d) (σ : Store), root = ptr t.root ∧ Env F (tb + 1) σ w ∧ Has σ t ∧ t.Ok 1 ∧ t.ents = es := by
      rcases hroot with ⟨_, rfl, _⟩ | h
      · cases hyin
      · exact h
    have hso := H.out.sorted
    have hfr := H.out.free
    generalize hr0 : tt.root = r0 at *
    have z1 : (0 : Int) ≤ (ky.size : Int) := Int.natCast_nonneg _
    have z2 : (0 : Int) ≤ (yn : Int) := Int.natCast_nonneg _
    have z3 : (ky.size : Int) + (yn : Int) ≤ (sizeL es : Int) := by omega
    have z4 : (sizeL es : Int) < 4611686018427387904 := by omega
    have HB : Hid (Sorted es ∧ F tb = none ∧ (sizeL es : Int) - ((ky.size : Int) + (yn : Int)) = ((sizeL (delL ky es) : Nat) : Int) ∧ (⟨ky, ya, yn, yc⟩ : It) ∈ es) := ⟨hso, hfr, by omega, hyin⟩
    have HT : Hid (tt.root = r0 ∧ w.heap[tb]? = some (.cells #[ptr r0, .int .u64 0, .int .i64 (sizeL es : Nat)] 33 (0, 0)) ∧ Env F (tb + 1) σ w ∧ Has σ tt ∧ tt.Ok 1 ∧ tt.ents = es) := ⟨hr0, hh0, he, hh, hok, hen⟩
    generalize hszz : (sizeL es : Int) = S at *
    have HSZ : Hid ((sizeL es : Int) = S) := hszz
    clear hszz hlk hyin hyk hsd hym hsd' hroot he hh hok hen hso hfr hr0 H hb
    go_enter Try.func24, Try.ntmps24
    go_wp2_with fail
    refine HG.mono ?_
    rintro e w1 ⟨rfl, hc1⟩
    have hh1 := hc1.heap hh0 (by simp)
    have c0 : w1.cell? ⟨tb, 0, none⟩ = some (.pointer (some ⟨r0 + 1, 0, none⟩)) := (Lib.cell_of_heap hh1 0).trans rfl
    have c2 : w1.cell? ⟨tb, 2, none⟩ = some (.int .i64 S) := (Lib.cell_of_heap hh1 2).trans rfl
    have c3 : w1.frozen? ⟨tb, 2, none⟩ = false := by simp [World.frozen?, hh1]
    have htl1 : tb < w1.heap.size := (Array.getElem?_eq_some_iff.1 hh1).1
    have HH1 : Hid (w1.heap[tb]? = some (.cells #[ptr r0, .int .u64 0, .int .i64 S] 33 (0, 0)) ∧ Chg [] w w1) := ⟨hh1, hc1⟩
    clear hh1 hh0 hc1 HG
    simp only [foundVal, Option.elim, It.val, Option.isSome]
    go_wp2_with fail
    obtain ⟨hh1, hc1⟩ := HH1.out
    obtain ⟨hr0, hh0, he, hh, hok, hen⟩ := HT.out
    have hct : Chg [tb] w1 (w1.setCell ⟨tb, 2, none⟩ (.int .i64 (S - ((ky.size : Int) + (yn : Int))))) := (Chg.refl _ _).setCell (.inl (by simp)) _
    have he2 := (he.chg0 hc1).tree HB.out.2.1 hct
    have hh2 := setCell_heap (j := 2) hh1 (.int .i64 (S - ((ky.size : Int) + (yn : Int))))
    have hb2 : Below tb w (w1.setCell ⟨tb, 2, none⟩ (.int .i64 (S - ((ky.size : Int) + (yn : Int))))) := (below0 (Nat.le_of_lt htl) hc1).trans (below_tb htl1 hct)
    generalize hZ : S - ((ky.size : Int) + (yn : Int)) = Z at *
    have HZ : Hid (Z = ((sizeL (delL ky es) : Nat) : Int)) := HB.out.2.2.1
    generalize hw2 : w1.setCell ⟨tb, 2, none⟩ (.int .i64 Z) = w2 at *
    clear hw2 hZ hct
    have hN2 := he2.rep _ _ hh.here.in_root
    rw [hr0] at hN2
    have hgen2 : Gen tb w2 := (Lib.cell_of_heap hh2 1).trans rfl
    have HM := mutable_any tb r0 _ w2 hgen2 hN2
    unfold ptr at HM
    refine HM.mono ?_
    rintro e w3 ⟨rfl, q, rfl⟩
    have hch := drewN_chg w2 q
    have hh3 := hch.heap hh2 (by simp)
    have g0 : (w2.drewN q).cell? ⟨tb, 0, none⟩ = some (.pointer (some ⟨r0 + 1, 0, none⟩)) := (Lib.cell_of_heap hh3 0).trans rfl
    have g1 : (w2.drewN q).frozen? ⟨tb, 0, none⟩ = false := hch.free (by simp [World.frozen?, hh2]) (Array.getElem?_eq_some_iff.1 hh2).1 (by simp)
    have htl3 : tb < (w2.drewN q).heap.size := (Array.getElem?_eq_some_iff.1 hh3).1
    have he3 := he2.chg0 hch
    have hb3 := hb2.trans (below0 (Nat.le_trans (Nat.le_of_lt htl) hb2.size) hch)
    clear HM hgen2 hN2 hch hh2 he2 hb2 hh1 hc1 hh0 he c0 c2 c3
    have hself := setCell_self (w2.drewN q) tb 0 _ g0
    have HSF : Hid ((w2.drewN q).setCell ⟨tb, 0, none⟩ (.pointer (some ⟨r0 + 1, 0, none⟩)) = w2.drewN q) := hself
    have HE3 : Hid (Env F (tb + 1) σ (w2.drewN q) ∧ (w2.drewN q).heap[tb]? = some (.cells #[ptr r0, .int .u64 0, .int .i64 Z] 33 (0, 0)) ∧ Below tb w (w2.drewN q) ∧ Has σ tt ∧ tt.Ok 1 ∧ tt.ents = es ∧ tt.root = r0) := ⟨he3, hh3, hb3, hh, hok, hen, hr0⟩
    clear hself he3 hh3 hb3 hh hok hen hr0
    generalize w2.drewN q = w4 at *
    go_wp2_with fail
    rw [HSF.out]
    clear HSF g0 g1 HT HH1
    go_loopg [6] (dd + 1) (fun g x wr => ∃ (d' : Nat) (t' : Tr d') (m' : Nat) (σ' : Store), x = ptr t'.root ∧ d' < g ∧ wr.heap[tb]? = some (.cells #[ptr r0, .int .u64 0, .int .i64 Z] 33 (0, 0)) ∧ Env F (tb + 1) σ' wr ∧ Has σ' t' ∧ t'.Ok m' ∧ m' ≤ 15 ∧ m' + 1 ≤ t'.its.length ∧ Sorted t'.ents ∧ (∃ e ∈ t'.ents, e.key = ky) ∧ Below tb w wr ∧ Wand (delL ky) dd r0 0 0 es m' σ' t')
    case atStart =>
      obtain ⟨a1, a2, a3, a4, a5, a6, a7⟩ := HE3.out
      refine ⟨dd, tt, 0, σ, by rw [a7]; rfl, Nat.lt_succ_self _, a2, a1, a4, tt.ok_mono a5 (Nat.zero_le _), Nat.zero_le _, (tt.ok_len a5).1, by rw [a6]; exact HB.out.1, ⟨_, by rw [a6]; exact HB.out.2.2.2, rfl⟩, a3, ?_⟩
      intro t2 σ4 hu hh hr he hok hk
      exact ⟨t2, hh, hr.trans a7, t2.ok_mono hok (Nat.zero_le _), by rw [he, a6]⟩
    case round =>
      clear HE3
      obtain ⟨d', t', m', σ', rfl, hg, hh1, he, hh, hok, hm15, hml, hs, hkin, hbw, hwand⟩ := hrel
      have hN := he.rep _ _ hh.here.in_root
      have h1 : wr.cell? ⟨t'.root + 1, 1, none⟩ = some (.slice (some ⟨t'.root, 0, none⟩) t'.its.length 31) := by
        have := hN.hdr
        rw [t'.nd_its] at this
        exact this
      have h2 := hN.khdr
      have hits : Items wr t'.root t'.its := by
        have := hN.items
        rw [t'.nd_its] at this
        exact this
      have HSR := search_any t'.root t'.its ky wr hits (t'.its_sorted hok hs)
      unfold ptr
      generalize hrb : t'.root = rb at *
      have HT : Hid (t'.root = rb ∧ wr.heap[tb]? = some (.cells #[ptr r0, .int .u64 0, .int .i64 Z] 33 (0, 0)) ∧ Env F (tb + 1) σ' wr ∧ Has σ' t' ∧ t'.Ok m' ∧ m' ≤ 15 ∧ m' + 1 ≤ t'.its.length ∧ Sorted t'.ents ∧ (∃ e ∈ t'.ents, e.key = ky) ∧ Below tb w wr ∧ Wand (delL ky) dd r0 0 0 es m' σ' t') := ⟨hrb, hh1, he, hh, hok, hm15, hml, hs, hkin, hbw, hwand⟩
      clear hN hrb hh1 he hh hok hs hbw hwand hkin
      go_wp2_with fail
      refine HSR.mono ?_
      rintro e w5 ⟨i, rfl, hp, hc1⟩
      have HP : Hid (Place t'.its ky i) := hp
      have hile : i ≤ t'.its.length := hp.le
      have hl31 : t'.its.length ≤ 31 := hits.len
      have h3 := hc1.cell h1 (by simp)
      have h4 := hc1.cell h2 (by simp)
      have HU : Hid (t'.root = rb ∧ w5.heap[tb]? = some (.cells #[ptr r0, .int .u64 0, .int .i64 Z] 33 (0, 0)) ∧ Env F (tb + 1) σ' w5 ∧ Has σ' t' ∧ t'.Ok m' ∧ m' ≤ 15 ∧ m' + 1 ≤ t'.its.length ∧ Sorted t'.ents ∧ (∃ e ∈ t'.ents, e.key = ky) ∧ Below tb w w5 ∧ Wand (delL ky) dd r0 0 0 es m' σ' t') := by
        obtain ⟨a1, a2, a3, a4, a5, a6, a7, a8, a9, a10, a11⟩ := HT.out
        exact ⟨a1, hc1.heap a2 (by simp), a3.chg0 hc1, a4, a5, a6, a7, a8, a9, a10.trans (below0 (Nat.le_trans (Nat.le_of_lt htl) a10.size) hc1), a11⟩
      clear hp h1 h2 hits HSR hc1 HT
      have z5 : (0 : Int) ≤ (i : Int) := Int.natCast_nonneg _
      have hnn := nil77
      cases d' with
      | zero =>
        obtain ⟨b, its⟩ := t'
        obtain ⟨hrb, hh1, he, hh, hok, hm15, hml', hs, hkin, hbw, hwand⟩ := HU.out
        have hrb' : b = rb := hrb
        subst hrb'
        have hsits : Sorted its := hs
        have hf := found_of_mem HP.out hsits hkin
        rw [hf]
        obtain ⟨y, hy, hyk⟩ := found_get hf
        have hi' : i < its.length := (List.getElem?_eq_some_iff.1 hy).1
        have hits := drop_at (l := its) hy
        have hN := he.rep b _ hh.here.in_root
        have h4' : w5.cell? ⟨b + 1, 2, none⟩ = some (.slice none 0 0) := h4
        have h3' : w5.cell? ⟨b + 1, 1, none⟩ = some (.slice (some ⟨b, 0, none⟩) its.length 31) := h3
        have hl31' : its.length ≤ 31 := hl31
        have hrow : RowOf 82 62 w5 b (flat (its.take i) ++ flat [y] ++ flat (its.drop (i + 1))) := by
          have : RowOf 82 62 w5 b (flat its) := hN.items
          rw [hits, flat_append, flat_append] at this
          exact this
        have HD := delete82 b its.length i _ _ _ w5 hrow hl31' hi' (by rw [flat_length, List.length_take]; omega) (by rw [flat_length]; rfl) (by rw [flat_length, List.length_drop]; omega) (flat_one_cell _)
        have hsb : σ' b = some ⟨its, none⟩ := hh.here
        have hdel : delL ky its = its.take i ++ its.drop (i + 1) := by
          have hits' : its = its.take i ++ y :: its.drop (i + 1) := by rw [List.append_assoc, List.singleton_append] at hits; exact hits
          have hs' := hsits
          rw [hits'] at hs'
          have := delL_here hs'
          rw [← hits', hyk] at this
          exact this
        have hnl : (its.take i ++ its.drop (i + 1)).length + 1 = its.length := by simp; omega
        have hmli : m' + 1 ≤ its.length := hml'
        have hwi := Tr.withIts_has (t := leaf b its) (its.take i ++ its.drop (i + 1)) hh
        obtain ⟨T, t1, t2, t3, t4⟩ := hwand _ _ hwi.2 hwi.1 rfl hdel.symm ⟨by show m' ≤ (its.take i ++ its.drop (i + 1)).length; omega, by show (its.take i ++ its.drop (i + 1)).length ≤ 31; omega⟩ (Nat.zero_le _)
        have HW : Hid (Env F (tb + 1) σ' w5 ∧ NodeAt w5 b ⟨its, none⟩ ∧ σ' b = some ⟨its, none⟩ ∧ w5.heap[tb]? = some (.cells #[ptr r0, .int .u64 0, .int .i64 Z] 33 (0, 0)) ∧ Below tb w w5 ∧ Has (σ'.set b ⟨its.take i ++ its.drop (i + 1), none⟩) T ∧ T.root = r0 ∧ T.Ok 0 ∧ T.ents = delL ky es ∧ (its.take i ++ its.drop (i + 1)).length + 1 = its.length) := ⟨he, hN, hsb, hh1, hbw, t1, t2, t3, t4, hnl⟩
        clear hrb hh1 he hh hok hm15 hml' hs hkin hbw hwand hf hy hyk hits hN hrow hsb hdel hwi t1 t2 t3 t4 hsits h3 h4 hl31 hnl HU HP hile hml
        go_wp2_with fail
        refine HD.mono ?_
        rintro e w6 ⟨rfl, hrow6, hc6⟩
        obtain ⟨he, hN, hsb, hh1, hbw, t1, t2, t3, t4, hnl⟩ := HW.out
        have f1 : w6.cell? ⟨b + 1, 1, none⟩ = some (.slice (some ⟨b, 0, none⟩) its.length 31) := hc6.cell h3' (by simp)
        have f3 := hc6.free (hN.free 1) hN.lt (by simp)
        have hit6 : Items w6 b (its.take i ++ its.drop (i + 1)) := by
          unfold Items
          rw [flat_append]
          exact hrow6
        have hp6 := hN.put_items hc6 hit6 (n := its.length - 1) (by omega)
        have he6 := he.turn hsb hp6.2 hp6.1
        have hb6 := hbw.trans ((he.below hsb hp6.2).mono (Nat.le_succ _))
        have hh6 := ((he.below hsb hp6.2).block tb (Nat.lt_succ_self _)).trans hh1
        have HZt : Hid (Env F (tb + 1) (σ'.set b ⟨its.take i ++ its.drop (i + 1), none⟩) (w6.setCell ⟨b + 1, 1, none⟩ (.slice (some ⟨b, 0, none⟩) (its.length - 1) 31)) ∧ Has (σ'.set b ⟨its.take i ++ its.drop (i + 1), none⟩) T ∧ T.root = r0 ∧ T.Ok 0 ∧ T.ents = delL ky es ∧ (w6.setCell ⟨b + 1, 1, none⟩ (.slice (some ⟨b, 0, none⟩) (its.length - 1) 31)).heap[tb]? = some (.cells #[ptr r0, .int .u64 0, .int .i64 Z] 33 (0, 0)) ∧ Below tb w (w6.setCell ⟨b + 1, 1, none⟩ (.slice (some ⟨b, 0, none⟩) (its.length - 1) 31))) := ⟨he6, t1, t2, t3, t4, hh6, hb6⟩
        clear he hN hsb hh1 hbw t1 t2 t3 t4 hnl hit6 hp6 he6 hb6 hh6 hrow6 hc6 HD
        go_upto_region 15 with fail
        generalize w6.setCell ⟨b + 1, 1, none⟩ (.slice (some ⟨b, 0, none⟩) (its.length - 1) 31) = wz at *
        clear f1 f3
        have e0 : wz.cell? ⟨tb, 0, none⟩ = some (.pointer (some ⟨r0 + 1, 0, none⟩)) := (Lib.cell_of_heap HZt.out.2.2.2.2.2.1 0).trans rfl
        have hNz := HZt.out.1.rep r0 _ (by rw [← HZt.out.2.2.1]; exact HZt.out.2.1.here.in_root)
        have e1 : wz.cell? ⟨r0 + 1, 1, none⟩ = some (.slice (some ⟨r0, 0, none⟩) T.its.length 31) := by
          have := hNz.hdr
          rw [T.nd_its] at this
          exact this
        have e2 := hNz.khdr
        have htlz : tb < wz.heap.size := World.block_lt_of_cell? wz _ e0
        have e3 : wz.frozen? ⟨tb, 0, none⟩ = false := by simp [World.frozen?, HZt.out.2.2.2.2.2.1]
        have hlT : T.its.length ≤ 31 := (T.ok_len HZt.out.2.2.2.1).2
        by_cases hT0 : T.its.length = 0
        · rcases T.bare HZt.out.2.1 HZt.out.2.2.2.1 hT0 with ⟨hk, hen⟩ | ⟨d2, k, hk, hkh, hkok, hken⟩
          · rw [hk] at e2
            have e2' : wz.cell? ⟨r0 + 1, 2, none⟩ = some (.slice none 0 0) := e2
            rw [hT0] at e1
            clear e2 hNz hk
            go_wp2_with fail
            obtain ⟨a1, a2, a3, a4, a5, a6, a7⟩ := HZt.out
            have hct : Chg [tb] wz (wz.setCell ⟨tb, 0, none⟩ (.pointer none)) := (Chg.refl _ _).setCell (.inl (by simp)) _
            refine bodyPost_end (v := .tuple #[]) (by simp [results, Try.results24, go_sem]) rfl ⟨rfl, ⟨HB.out.1.del _, HB.out.2.1, .pointer none, ?_, .inl ⟨rfl, by rw [← a5, hen], (a1.tree HB.out.2.1 hct).empty⟩⟩, a7.trans (below_tb htlz hct)⟩
            rw [setCell_heap a6, ← HZ.out]
            rfl
          · rw [hk] at e2
            have e2' : wz.cell? ⟨r0 + 1, 2, none⟩ = some (.slice (some ⟨r0 + 2, 0, none⟩) 1 32) := e2
            have e4 : wz.cell? ⟨r0 + 2, 0, none⟩ = some (.pointer (some ⟨k.root + 1, 0, none⟩)) := hNz.kid hk (i := 0) (by simp)
            rw [hT0] at e1
            clear e2 hNz hk
            go_wp2_with fail
            obtain ⟨a1, a2, a3, a4, a5, a6, a7⟩ := HZt.out
            have hct : Chg [tb] wz (wz.setCell ⟨tb, 0, none⟩ (.pointer (some ⟨k.root + 1, 0, none⟩))) := (Chg.refl _ _).setCell (.inl (by simp)) _
            refine bodyPost_end (v := .tuple #[]) (by simp [results, Try.results24, go_sem]) rfl ⟨rfl, ⟨HB.out.1.del _, HB.out.2.1, ptr k.root, ?_, .inr ⟨d2, k, _, rfl, a1.tree HB.out.2.1 hct, hkh, k.ok_mono hkok (by have := (k.ok_len hkok).1; omega), by rw [hken, a5]⟩⟩, a7.trans (below_tb htlz hct)⟩
            rw [setCell_heap a6, ← HZ.out]
            rfl
        · have hTi : (T.its.length : Int) ≠ 0 := by omega
          clear e2 hNz
          go_wp2_with fail
          obtain ⟨a1, a2, a3, a4, a5, a6, a7⟩ := HZt.out
          refine bodyPost_end (v := .tuple #[]) (by simp [results, Try.results24, go_sem]) rfl ⟨rfl, ⟨HB.out.1.del _, HB.out.2.1, ptr r0, ?_, .inr ⟨dd, T, _, by rw [a3], a1, a2, T.ok_mono a4 (by omega), a5⟩⟩, a7⟩
          rw [a6, ← HZ.out]
      | succ d' =>
        obtain ⟨b, its, ks⟩ := t'
        have hrb' : b = rb := HU.out.1
        subst hrb'
        have h3' : w5.cell? ⟨b + 1, 1, none⟩ = some (.slice (some ⟨b, 0, none⟩) its.length 31) := h3
        have hkl0 : ks.length = its.length + 1 := HU.out.2.2.2.2.1.2.2.1
        have h4' : w5.cell? ⟨b + 1, 2, none⟩ = some (.slice (some ⟨b + 2, 0, none⟩) (its.length + 1) 32) := by
          have : w5.cell? ⟨b + 1, 2, none⟩ = some (.slice (some ⟨b + 2, 0, none⟩) (ks.map Tr.root).length 32) := h4
          rw [List.length_map, hkl0] at this
          exact this
        have hl31' : its.length ≤ 31 := hl31
        have hile' : i ≤ its.length := hile
        have hgen : Gen tb w5 := (Lib.cell_of_heap HU.out.2.1 1).trans rfl
        have hsits : Sorted its := Tr.its_sorted (t := node b its ks) HU.out.2.2.2.2.1 HU.out.2.2.2.2.2.2.2.1
        have hmli : m' + 1 ≤ its.length := HU.out.2.2.2.2.2.2.1
        clear h3 h4 hl31 hile hml
        by_cases hf : foundB its ky i = true
        · have hf1 : foundB (Tr.its (d := d' + 1) (b, its, ks)) ky i = true := hf
          rw [hf1]
          obtain ⟨y, hy, hyk⟩ := found_get hf
          have hi' : i < its.length := (List.getElem?_eq_some_iff.1 hy).1
          obtain ⟨A, c, r, C, rfl, hA, hits, hC, hents⟩ := node_item (b := b) HU.out.2.2.2.2.1 hy
          have hN := HU.out.2.2.1.rep b _ HU.out.2.2.2.1.here.1
          have k1 : w5.cell? ⟨b + 2, i, none⟩ = some (.pointer (some ⟨c.root + 1, 0, none⟩)) := by
            have hki : i < ((A ++ c :: r :: C).map Tr.root).length := by simp [← hA]
            have := hN.kid rfl hki
            have hkx : ((A ++ c :: r :: C).map Tr.root)[i] = c.root := by
              have := kids_get A (r :: C) c
              rw [hA, List.getElem?_eq_getElem hki] at this
              exact Option.some.inj this
            rw [hkx] at this
            exact this
          have k2 : w5.cell? ⟨b + 2, i + 1, none⟩ = some (.pointer (some ⟨r.root + 1, 0, none⟩)) := by
            have hki : i + 1 < ((A ++ c :: r :: C).map Tr.root).length := by simp [← hA]
            have := hN.kid rfl hki
            have hkx : ((A ++ c :: r :: C).map Tr.root)[i + 1] = r.root := by
              have := kids_get1 A C c r
              rw [hA, List.getElem?_eq_getElem hki] at this
              exact Option.some.inj this
            rw [hkx] at this
            exact this
          have hNc := HU.out.2.2.1.rep _ _ (Has.child HU.out.2.2.2.1 (show c ∈ A ++ c :: r :: C by simp)).here.in_root
          have hNr := HU.out.2.2.1.rep _ _ (Has.child HU.out.2.2.2.1 (show r ∈ A ++ c :: r :: C by simp)).here.in_root
          have k3 : w5.cell? ⟨c.root + 1, 1, none⟩ = some (.slice (some ⟨c.root, 0, none⟩) c.its.length 31) := by
            have := hNc.hdr
            rw [c.nd_its] at this
            exact this
          have k4 : w5.cell? ⟨r.root + 1, 1, none⟩ = some (.slice (some ⟨r.root, 0, none⟩) r.its.length 31) := by
            have := hNr.hdr
            rw [r.nd_its] at this
            exact this
          have lc : c.its.length ≤ 31 := by have := hNc.len; rw [c.nd_its] at this; exact this
          have lr : r.its.length ≤ 31 := by have := hNr.len; rw [r.nd_its] at this; exact this
          have z6 : (i : Int) < (its.length : Int) := by omega
          have hA0 : Hid (A.length = i) := hA
          have HITS : Hid (its = its.take i ++ y :: its.drop (i + 1) ∧ y.key = ky ∧ its[i]? = some y) := ⟨hits, hyk, hy⟩
          have HENT : Hid ((node b its (A ++ c :: r :: C)).ents = pre (its.take i) (A.map Tr.ents) ++ c.ents ++ y :: r.ents ++ post (its.drop (i + 1)) (C.map Tr.ents)) := hents
          clear hN hNc hNr hf hf1 hy hits hyk hents hA hC hkl0
          by_cases hc15 : 15 < c.its.length
          · have z7 : (15 : Int) < (c.its.length : Int) := by omega
            go_wp2_with fail
            clear k1 k2 k3 k4
            have hA := hA0.out
            obtain ⟨hrb, hh1, he, hh, hok, hm15, hml', hs, hkin, hbw, hwand⟩ := HU.out
            have hchk : c ∈ A ++ c :: r :: C := by simp
            have hcok := hok.2.2.2 c hchk
            have hch : Has σ' c := Has.child hh hchk
            have hsb : σ' b = some ⟨its, some ((A ++ c :: r :: C).map Tr.root)⟩ := hh.here.1
            have hki : i < ((A ++ c :: r :: C).map Tr.root).length := by simp [← hA]
            have hkx : ((A ++ c :: r :: C).map Tr.root)[i] = c.root := by
              have := kids_get A (r :: C) c
              rw [hA, List.getElem?_eq_getElem hki] at this
              exact Option.some.inj this
            have HMC : Hid (∀ W, Gen tb W → Env F (tb + 1) σ' W → Calls Try.prog 53 #[.pointer (some ⟨tb, 0, none⟩), ptr b, .int .i64 i] W fun e w' => e = .returned (ptr c.root) ∧ Env F (tb + 1) σ' w' ∧ Below (tb + 1) W w') := fun W hg he => by
              have := mutableChild_any F (tb + 1) tb b i _ c.nd _ σ' W hg he hsb rfl hki (by rw [hkx]; exact hch.here.in_root)
              rw [hkx] at this
              exact this
            have HRE : Hid (∀ W, Gen tb W → Env F (tb + 1) σ' W → Calls Try.prog 52 #[.pointer (some ⟨tb, 0, none⟩), ptr c.root, .bool true] W fun e w' => ∃ (x : It) (T : Tr d') (σ2 : Store), e = .returned (.agg #[.string x.key, x.val]) ∧ Env F (tb + 1) σ2 w' ∧ Has σ2 T ∧ Upd σ' σ2 c.ids T.ids ∧ T.root = c.root ∧ T.Ok 15 ∧ c.ents = endE true T.ents x ∧ Below (tb + 1) W w') := fun W hg he => removeEnd_last F tb c σ' W hg he hch (c.ok_mono hcok (by omega))
            have HFA : Hid (∀ W, Env F (tb + 1) σ' W → W.cell? ⟨b + 1, 1, none⟩ = some (.slice (some ⟨b, 0, none⟩) its.length 31)) := fun W hW => (hW.rep b _ hsb).hdr
            have htl5 : tb < w5.heap.size := (Array.getElem?_eq_some_iff.1 hh1).1
            have hgen5 : Gen tb w5 := (Lib.cell_of_heap hh1 1).trans rfl
            have hdr := (Chg.refl [] w5).drew
            clear hrb hh1 he hh hok hm15 hml' hs hkin hbw hwand hch hsb hki hkx hA
            have zw : IntKind.i64.wrap ((i : Int) + 1) = (i : Int) + 1 := IntWalk.i64_in _ (by omega)
            refine wp_region_T [0, 1, 2, 3, 4, 5, 6, 7, 8] [] (fun W => W.cell? ⟨b + 1, 1, none⟩ = some (.slice (some ⟨b, 0, none⟩) its.length 31)) 4 (by kernel_rfl) (by kernel_rfl) (by exact h3') ?_
            iterate 9 (apply wpTake_cons rfl rfl (by rfl); (next => intro W hW; have hW1 := hW; clear hW; go_simp; first | done | with_reducible rfl | (go_bits; first | done | with_reducible rfl | (go_simp; first | done | with_reducible rfl))); simp only [List.setIfInBounds_toArray, List.set_cons_zero, List.set_cons_succ])
            refine wpTake_nil ?_
            refine wpAnyT_one (r := 9) (by kernel_rfl) rfl ?_
            intro K hK
            go_simp
            refine (HMC.out _ (hgen5.later (below0 (B := tb + 1) htl5 hdr) (Nat.lt_succ_self _)) (HU.out.2.2.1.chg0 hdr)).mono ?_
            rintro e w7 ⟨rfl, he7, hb7⟩
            have hb7 := (below0 (B := tb + 1) htl5 hdr).trans hb7
            refine hK.out _ _ ⟨fun _ => HFA.out _ he7, ?_⟩
            clear hK K
            refine wpAnyT_one (r := 10) (by kernel_rfl) rfl ?_
            intro K hK
            go_simp
            refine (HRE.out _ (hgen5.later hb7 (Nat.lt_succ_self _)) he7).mono ?_
            rintro e w8 ⟨x, T2, σ2, rfl, he8, hh8, hu8, hr8, hok8, hen8, hb8⟩
            have hb8 := hb7.trans hb8
            obtain ⟨xk, xa, xn, xc⟩ := x
            have hplug : Has σ2 (node b its (A ++ T2 :: (r :: C))) ∧ Upd σ' σ2 (node b its (A ++ c :: (r :: C))).ids (node b its (A ++ T2 :: (r :: C))).ids := plug (by
              have := HU.out.2.2.2.1
              exact this) hu8 hh8 hr8
            have hsb8 : σ2 b = some ⟨its, some ((A ++ T2 :: (r :: C)).map Tr.root)⟩ := hplug.1.here.1
            have hN8 := he8.rep b _ hsb8
            have f1 : w8.cell? ⟨b + 1, 1, none⟩ = some (.slice (some ⟨b, 0, none⟩) its.length 31) := hN8.hdr
            have fa := hN8.items.frozen (i * 2)
            have fb := hN8.items.frozen (i * 2 + 1)
            have hob1 := (hN8.items.at hi').1
            have hob2 := (hN8.items.at hi').2
            refine hK.out _ _ ⟨fun _ => f1, ?_⟩
            clear hK K
            simp only [It.val]
            refine wpAnyT_one (r := 11) (by kernel_rfl) rfl ?_
            intro K hK
            go_simp
            refine hK.out _ _ ⟨fun _ => f1, ?_⟩
            clear hK K
            refine wpAnyT_one (r := 12) (by kernel_rfl) rfl ?_
            intro K hK
            go_simp
            have hi8 := hN8.items.store hi' ⟨xk, xa, xn, xc⟩
            have hc8 : Chg [b] w8 ((w8.setCell ⟨b, i * 2, none⟩ (.string xk)).setCell ⟨b, i * 2 + 1, none⟩ (.slice xa xn xc)) := ((Chg.refl _ _).setCell (.inl (by simp)) _).setCell (.inl (by simp)) _
            have hp8 := hN8.set_items hc8 hi8 (by simp)
            have he9 := he8.turn hsb8 hp8.2 hp8.1
            refine hK.out _ _ ⟨fun _ => hc8.cell f1 (by simp), ?_⟩
            clear hK K
            refine wpAnyT_done (by kernel_rfl) ?_ _
            refine NoPanic.normal ?_
            obtain ⟨hits, hyk, _⟩ := HITS.out
            have hents := HENT.out
            have hA := hA0.out
            obtain ⟨hrb, hh1, he, hh, hok, hm15, hml', hs, hkin, hbw, hwand⟩ := HU.out
            have hwi := Tr.withIts_has (t := node b its (A ++ T2 :: (r :: C))) (its.set i ⟨xk, xa, xn, xc⟩) hplug.1
            have hb9 := hb8.trans (he8.below hsb8 hp8.2)
            have hh9 := (hb9.block tb (Nat.lt_succ_self _)).trans hh1
            have hbw9 := hbw.trans (hb9.mono (Nat.le_succ _))
            have e1 : its.set i (⟨xk, xa, xn, xc⟩ : It) = its.take i ++ ⟨xk, xa, xn, xc⟩ :: its.drop (i + 1) := by
              conv => lhs; rw [hits]
              have := set_mid (its.take i) y ⟨xk, xa, xn, xc⟩ (its.drop (i + 1)) (i := i) (by rw [List.length_take]; omega)
              simpa using this
            have hkl : (A ++ c :: r :: C).length = its.length + 1 := hok.2.2.1
            have hC' : C.length = (its.drop (i + 1)).length := by rw [List.length_drop]; simp at hkl; omega
            have hA' : A.length = (its.take i).length := by rw [List.length_take]; omega
            obtain ⟨T, t1, t2, t3, t4⟩ := hwand _ _ (by
                have h1 := hplug.2.trans hwi.2
                rw [Tr.withIts_ids] at h1
                exact h1) hwi.1 rfl (by
                show (node b (its.set i ⟨xk, xa, xn, xc⟩) (A ++ T2 :: (r :: C))).ents = delL ky (node b its (A ++ c :: r :: C)).ents
                have hs1 : Sorted (node b its (A ++ c :: r :: C)).ents := hs
                rw [e1, ents_at2 b _ _ _ A C T2 r hA' hC', hents, hen8]
                rw [hents, hen8] at hs1
                have e2 : ∀ (P Q R : List It), P ++ endE true T2.ents ⟨xk, xa, xn, xc⟩ ++ y :: r.ents ++ R = (P ++ (T2.ents ++ [⟨xk, xa, xn, xc⟩])) ++ y :: (r.ents ++ R) := by intro P Q R; simp [endE]
                rw [e2 _ []] at hs1 ⊢
                rw [← hyk, delL_here hs1]
                simp) (Tr.withIts_ok (node b its (A ++ T2 :: (r :: C))) _ (m := m') (by
                have h2 : (node b its (A ++ c :: (r :: C))).Ok m' := by
                  have := hok
                  exact this
                exact ok_child h2 hok8) List.length_set (by rw [List.length_set]; exact hok.1)) (Nat.zero_le _)
            have HZt : Hid (Env F (tb + 1) (σ2.set b ⟨its.set i ⟨xk, xa, xn, xc⟩, some ((A ++ T2 :: (r :: C)).map Tr.root)⟩) ((w8.setCell ⟨b, i * 2, none⟩ (.string xk)).setCell ⟨b, i * 2 + 1, none⟩ (.slice xa xn xc)) ∧ Has (σ2.set b ⟨its.set i ⟨xk, xa, xn, xc⟩, some ((A ++ T2 :: (r :: C)).map Tr.root)⟩) T ∧ T.root = r0 ∧ T.Ok 0 ∧ T.ents = delL ky es ∧ ((w8.setCell ⟨b, i * 2, none⟩ (.string xk)).setCell ⟨b, i * 2 + 1, none⟩ (.slice xa xn xc)).heap[tb]? = some (.cells #[ptr r0, .int .u64 0, .int .i64 Z] 33 (0, 0)) ∧ Below tb w ((w8.setCell ⟨b, i * 2, none⟩ (.string xk)).setCell ⟨b, i * 2 + 1, none⟩ (.slice xa xn xc))) := ⟨he9, t1, t2, t3, t4, hh9, hbw9⟩
            clear hits hyk hents hA hrb hh1 he hh hok hm15 hml' hs hkin hbw hwand hwi hb9 hh9 hbw9 e1 hkl hC' hA' t1 t2 t3 t4 he9 hp8 hc8 hi8 hN8 fa fb hob1 hob2 f1 hsb8 hplug he8 hh8 hu8 hr8 hok8 hen8 hb8 he7 hb7
            generalize ((w8.setCell ⟨b, i * 2, none⟩ (.string xk)).setCell ⟨b, i * 2 + 1, none⟩ (.slice xa xn xc)) = wz at *
            go_upto_region 15 with fail
            have e0 : wz.cell? ⟨tb, 0, none⟩ = some (.pointer (some ⟨r0 + 1, 0, none⟩)) := (Lib.cell_of_heap HZt.out.2.2.2.2.2.1 0).trans rfl
            have hNz := HZt.out.1.rep r0 _ (by rw [← HZt.out.2.2.1]; exact HZt.out.2.1.here.in_root)
            have e1 : wz.cell? ⟨r0 + 1, 1, none⟩ = some (.slice (some ⟨r0, 0, none⟩) T.its.length 31) := by
              have := hNz.hdr
              rw [T.nd_its] at this
              exact this
            have e2 := hNz.khdr
            have htlz : tb < wz.heap.size := World.block_lt_of_cell? wz _ e0
            have e3 : wz.frozen? ⟨tb, 0, none⟩ = false := by simp [World.frozen?, HZt.out.2.2.2.2.2.1]
            have hlT : T.its.length ≤ 31 := (T.ok_len HZt.out.2.2.2.1).2
            by_cases hT0 : T.its.length = 0
            · rcases T.bare HZt.out.2.1 HZt.out.2.2.2.1 hT0 with ⟨hk, hen⟩ | ⟨d2, k, hk, hkh, hkok, hken⟩
              · rw [hk] at e2
                have e2' : wz.cell? ⟨r0 + 1, 2, none⟩ = some (.slice none 0 0) := e2
                rw [hT0] at e1
                clear e2 hNz hk
                go_wp2_with fail
                obtain ⟨a1, a2, a3, a4, a5, a6, a7⟩ := HZt.out
                have hct : Chg [tb] wz (wz.setCell ⟨tb, 0, none⟩ (.pointer none)) := (Chg.refl _ _).setCell (.inl (by simp)) _
                refine bodyPost_end (v := .tuple #[]) (by simp [results, Try.results24, go_sem]) rfl ⟨rfl, ⟨HB.out.1.del _, HB.out.2.1, .pointer none, ?_, .inl ⟨rfl, by rw [← a5, hen], (a1.tree HB.out.2.1 hct).empty⟩⟩, a7.trans (below_tb htlz hct)⟩
                rw [setCell_heap a6, ← HZ.out]
                rfl
              · rw [hk] at e2
                have e2' : wz.cell? ⟨r0 + 1, 2, none⟩ = some (.slice (some ⟨r0 + 2, 0, none⟩) 1 32) := e2
                have e4 : wz.cell? ⟨r0 + 2, 0, none⟩ = some (.pointer (some ⟨k.root + 1, 0, none⟩)) := hNz.kid hk (i := 0) (by simp)
                rw [hT0] at e1
                clear e2 hNz hk
                go_wp2_with fail
                obtain ⟨a1, a2, a3, a4, a5, a6, a7⟩ := HZt.out
                have hct : Chg [tb] wz (wz.setCell ⟨tb, 0, none⟩ (.pointer (some ⟨k.root + 1, 0, none⟩))) := (Chg.refl _ _).setCell (.inl (by simp)) _
                refine bodyPost_end (v := .tuple #[]) (by simp [results, Try.results24, go_sem]) rfl ⟨rfl, ⟨HB.out.1.del _, HB.out.2.1, ptr k.root, ?_, .inr ⟨d2, k, _, rfl, a1.tree HB.out.2.1 hct, hkh, k.ok_mono hkok (by have := (k.ok_len hkok).1; omega), by rw [hken, a5]⟩⟩, a7.trans (below_tb htlz hct)⟩
                rw [setCell_heap a6, ← HZ.out]
                rfl
            · have hTi : (T.its.length : Int) ≠ 0 := by omega
              clear e2 hNz
              go_wp2_with fail
              obtain ⟨a1, a2, a3, a4, a5, a6, a7⟩ := HZt.out
              refine bodyPost_end (v := .tuple #[]) (by simp [results, Try.results24, go_sem]) rfl ⟨rfl, ⟨HB.out.1.del _, HB.out.2.1, ptr r0, ?_, .inr ⟨dd, T, _, by rw [a3], a1, a2, T.ok_mono a4 (by omega), a5⟩⟩, a7⟩
              rw [a6, ← HZ.out]
          · have z7 : ¬ (15 : Int) < (c.its.length : Int) := by omega
            by_cases hr15 : 15 < r.its.length
            · have z8 : (15 : Int) < (r.its.length : Int) := by omega
              go_wp2_with fail
              clear k1 k2 k3 k4
              have hA := hA0.out
              obtain ⟨hrb, hh1, he, hh, hok, hm15, hml', hs, hkin, hbw, hwand⟩ := HU.out
              have hchk : r ∈ A ++ c :: r :: C := by simp
              have hcok := hok.2.2.2 r hchk
              have hch : Has σ' r := Has.child hh hchk
              have hsb : σ' b = some ⟨its, some ((A ++ c :: r :: C).map Tr.root)⟩ := hh.here.1
              have hki : (i + 1) < ((A ++ c :: r :: C).map Tr.root).length := by simp [← hA]
              have hkx : ((A ++ c :: r :: C).map Tr.root)[(i + 1)] = r.root := by
                have := kids_get1 A C c r
                rw [hA, List.getElem?_eq_getElem hki] at this
                exact Option.some.inj this
              have HMC : Hid (∀ W, Gen tb W → Env F (tb + 1) σ' W → Calls Try.prog 53 #[.pointer (some ⟨tb, 0, none⟩), ptr b, .int .i64 (i + 1)] W fun e w' => e = .returned (ptr r.root) ∧ Env F (tb + 1) σ' w' ∧ Below (tb + 1) W w') := fun W hg he => by
                have := mutableChild_any F (tb + 1) tb b (i + 1) _ r.nd _ σ' W hg he hsb rfl hki (by rw [hkx]; exact hch.here.in_root)
                rw [hkx] at this
                exact this
              have HRE : Hid (∀ W, Gen tb W → Env F (tb + 1) σ' W → Calls Try.prog 52 #[.pointer (some ⟨tb, 0, none⟩), ptr r.root, .bool false] W fun e w' => ∃ (x : It) (T : Tr d') (σ2 : Store), e = .returned (.agg #[.string x.key, x.val]) ∧ Env F (tb + 1) σ2 w' ∧ Has σ2 T ∧ Upd σ' σ2 r.ids T.ids ∧ T.root = r.root ∧ T.Ok 15 ∧ r.ents = endE false T.ents x ∧ Below (tb + 1) W w') := fun W hg he => removeEnd_first F tb r σ' W hg he hch (r.ok_mono hcok (by omega))
              have HFA : Hid (∀ W, Env F (tb + 1) σ' W → W.cell? ⟨b + 1, 1, none⟩ = some (.slice (some ⟨b, 0, none⟩) its.length 31)) := fun W hW => (hW.rep b _ hsb).hdr
              have htl5 : tb < w5.heap.size := (Array.getElem?_eq_some_iff.1 hh1).1
              have hgen5 : Gen tb w5 := (Lib.cell_of_heap hh1 1).trans rfl
              have hdr := (Chg.refl [] w5).drew
              clear hrb hh1 he hh hok hm15 hml' hs hkin hbw hwand hch hsb hki hkx hA
              have zw : IntKind.i64.wrap ((i : Int) + 1) = (i : Int) + 1 := IntWalk.i64_in _ (by omega)
              refine wp_region_T [0, 1, 2, 3, 4, 5, 6, 7, 8, 9] [] (fun W => W.cell? ⟨b + 1, 1, none⟩ = some (.slice (some ⟨b, 0, none⟩) its.length 31)) 4 (by kernel_rfl) (by kernel_rfl) (by exact h3') ?_
              iterate 10 (apply wpTake_cons rfl rfl (by rfl); (next => intro W hW; have hW1 := hW; clear hW; go_simp; first | done | with_reducible rfl | (go_bits; first | done | with_reducible rfl | (go_simp; first | done | with_reducible rfl))); simp only [List.setIfInBounds_toArray, List.set_cons_zero, List.set_cons_succ])
              refine wpTake_nil ?_
              refine wpAnyT_one (r := 10) (by kernel_rfl) rfl ?_
              intro K hK
              go_simp
              refine (HMC.out _ (hgen5.later (below0 (B := tb + 1) htl5 hdr) (Nat.lt_succ_self _)) (HU.out.2.2.1.chg0 hdr)).mono ?_
              rintro e w7 ⟨rfl, he7, hb7⟩
              have hb7 := (below0 (B := tb + 1) htl5 hdr).trans hb7
              refine hK.out _ _ ⟨fun _ => HFA.out _ he7, ?_⟩
              clear hK K
              refine wpAnyT_one (r := 11) (by kernel_rfl) rfl ?_
              intro K hK
              go_simp
              refine (HRE.out _ (hgen5.later hb7 (Nat.lt_succ_self _)) he7).mono ?_
              rintro e w8 ⟨x, T2, σ2, rfl, he8, hh8, hu8, hr8, hok8, hen8, hb8⟩
              have hb8 := hb7.trans hb8
              obtain ⟨xk, xa, xn, xc⟩ := x
              have hplug : Has σ2 (node b its ((A ++ [c]) ++ T2 :: C)) ∧ Upd σ' σ2 (node b its ((A ++ [c]) ++ r :: C)).ids (node b its ((A ++ [c]) ++ T2 :: C)).ids := plug (by
                have := HU.out.2.2.2.1
                rw [show A ++ c :: r :: C = (A ++ [c]) ++ r :: C by simp] at this
                exact this) hu8 hh8 hr8
              have hsb8 : σ2 b = some ⟨its, some (((A ++ [c]) ++ T2 :: C).map Tr.root)⟩ := hplug.1.here.1
              have hN8 := he8.rep b _ hsb8
              have f1 : w8.cell? ⟨b + 1, 1, none⟩ = some (.slice (some ⟨b, 0, none⟩) its.length 31) := hN8.hdr
              have fa := hN8.items.frozen (i * 2)
              have fb := hN8.items.frozen (i * 2 + 1)
              have hob1 := (hN8.items.at hi').1
              have hob2 := (hN8.items.at hi').2
              refine hK.out _ _ ⟨fun _ => f1, ?_⟩
              clear hK K
              simp only [It.val]
              refine wpAnyT_one (r := 12) (by kernel_rfl) rfl ?_
              intro K hK
              go_simp
              refine hK.out _ _ ⟨fun _ => f1, ?_⟩
              clear hK K
              refine wpAnyT_one (r := 13) (by kernel_rfl) rfl ?_
              intro K hK
              go_simp
              have hi8 := hN8.items.store hi' ⟨xk, xa, xn, xc⟩
              have hc8 : Chg [b] w8 ((w8.setCell ⟨b, i * 2, none⟩ (.string xk)).setCell ⟨b, i * 2 + 1, none⟩ (.slice xa xn xc)) := ((Chg.refl _ _).setCell (.inl (by simp)) _).setCell (.inl (by simp)) _
              have hp8 := hN8.set_items hc8 hi8 (by simp)
              have he9 := he8.turn hsb8 hp8.2 hp8.1
              refine hK.out _ _ ⟨fun _ => hc8.cell f1 (by simp), ?_⟩
              clear hK K
              refine wpAnyT_done (by kernel_rfl) ?_ _
              refine NoPanic.normal ?_
              obtain ⟨hits, hyk, _⟩ := HITS.out
              have hents := HENT.out
              have hA := hA0.out
              obtain ⟨hrb, hh1, he, hh, hok, hm15, hml', hs, hkin, hbw, hwand⟩ := HU.out
              have hwi := Tr.withIts_has (t := node b its ((A ++ [c]) ++ T2 :: C)) (its.set i ⟨xk, xa, xn, xc⟩) hplug.1
              have hb9 := hb8.trans (he8.below hsb8 hp8.2)
              have hh9 := (hb9.block tb (Nat.lt_succ_self _)).trans hh1
              have hbw9 := hbw.trans (hb9.mono (Nat.le_succ _))
              have e1 : its.set i (⟨xk, xa, xn, xc⟩ : It) = its.take i ++ ⟨xk, xa, xn, xc⟩ :: its.drop (i + 1) := by
                conv => lhs; rw [hits]
                have := set_mid (its.take i) y ⟨xk, xa, xn, xc⟩ (its.drop (i + 1)) (i := i) (by rw [List.length_take]; omega)
                simpa using this
              have hkl : (A ++ c :: r :: C).length = its.length + 1 := hok.2.2.1
              have hC' : C.length = (its.drop (i + 1)).length := by rw [List.length_drop]; simp at hkl; omega
              have hA' : A.length = (its.take i).length := by rw [List.length_take]; omega
              obtain ⟨T, t1, t2, t3, t4⟩ := hwand _ _ (by
                  have h1 := hplug.2.trans hwi.2
                  rw [Tr.withIts_ids] at h1
                  rw [show (A ++ [c]) ++ r :: C = A ++ c :: r :: C by simp] at h1
                  exact h1) hwi.1 rfl (by
                  show (node b (its.set i ⟨xk, xa, xn, xc⟩) ((A ++ [c]) ++ T2 :: C)).ents = delL ky (node b its (A ++ c :: r :: C)).ents
                  have hs1 : Sorted (node b its (A ++ c :: r :: C)).ents := hs
                  rw [e1, show (A ++ [c]) ++ T2 :: C = A ++ c :: T2 :: C by simp, ents_at2 b _ _ _ A C c T2 hA' hC', hents, hen8]
                  rw [hents, hen8] at hs1
                  have e2 : ∀ (P Q R : List It), P ++ c.ents ++ y :: endE false T2.ents ⟨xk, xa, xn, xc⟩ ++ R = (P ++ c.ents) ++ y :: (⟨xk, xa, xn, xc⟩ :: T2.ents ++ R) := by intro P Q R; simp [endE]
                  rw [e2 _ []] at hs1 ⊢
                  rw [← hyk, delL_here hs1]
                  simp) (Tr.withIts_ok (node b its ((A ++ [c]) ++ T2 :: C)) _ (m := m') (by
                  have h2 : (node b its ((A ++ [c]) ++ r :: C)).Ok m' := by
                    have := hok
                    rw [show A ++ c :: r :: C = (A ++ [c]) ++ r :: C by simp] at this
                    exact this
                  exact ok_child h2 hok8) List.length_set (by rw [List.length_set]; exact hok.1)) (Nat.zero_le _)
              have HZt : Hid (Env F (tb + 1) (σ2.set b ⟨its.set i ⟨xk, xa, xn, xc⟩, some (((A ++ [c]) ++ T2 :: C).map Tr.root)⟩) ((w8.setCell ⟨b, i * 2, none⟩ (.string xk)).setCell ⟨b, i * 2 + 1, none⟩ (.slice xa xn xc)) ∧ Has (σ2.set b ⟨its.set i ⟨xk, xa, xn, xc⟩, some (((A ++ [c]) ++ T2 :: C).map Tr.root)⟩) T ∧ T.root = r0 ∧ T.Ok 0 ∧ T.ents = delL ky es ∧ ((w8.setCell ⟨b, i * 2, none⟩ (.string xk)).setCell ⟨b, i * 2 + 1, none⟩ (.slice xa xn xc)).heap[tb]? = some (.cells #[ptr r0, .int .u64 0, .int .i64 Z] 33 (0, 0)) ∧ Below tb w ((w8.setCell ⟨b, i * 2, none⟩ (.string xk)).setCell ⟨b, i * 2 + 1, none⟩ (.slice xa xn xc))) := ⟨he9, t1, t2, t3, t4, hh9, hbw9⟩
              clear hits hyk hents hA hrb hh1 he hh hok hm15 hml' hs hkin hbw hwand hwi hb9 hh9 hbw9 e1 hkl hC' hA' t1 t2 t3 t4 he9 hp8 hc8 hi8 hN8 fa fb hob1 hob2 f1 hsb8 hplug he8 hh8 hu8 hr8 hok8 hen8 hb8 he7 hb7
              generalize ((w8.setCell ⟨b, i * 2, none⟩ (.string xk)).setCell ⟨b, i * 2 + 1, none⟩ (.slice xa xn xc)) = wz at *
              go_upto_region 15 with fail
              have e0 : wz.cell? ⟨tb, 0, none⟩ = some (.pointer (some ⟨r0 + 1, 0, none⟩)) := (Lib.cell_of_heap HZt.out.2.2.2.2.2.1 0).trans rfl
              have hNz := HZt.out.1.rep r0 _ (by rw [← HZt.out.2.2.1]; exact HZt.out.2.1.here.in_root)
              have e1 : wz.cell? ⟨r0 + 1, 1, none⟩ = some (.slice (some ⟨r0, 0, none⟩) T.its.length 31) := by
                have := hNz.hdr
                rw [T.nd_its] at this
                exact this
              have e2 := hNz.khdr
              have htlz : tb < wz.heap.size := World.block_lt_of_cell? wz _ e0
              have e3 : wz.frozen? ⟨tb, 0, none⟩ = false := by simp [World.frozen?, HZt.out.2.2.2.2.2.1]
              have hlT : T.its.length ≤ 31 := (T.ok_len HZt.out.2.2.2.1).2
              by_cases hT0 : T.its.length = 0
              · rcases T.bare HZt.out.2.1 HZt.out.2.2.2.1 hT0 with ⟨hk, hen⟩ | ⟨d2, k, hk, hkh, hkok, hken⟩
                · rw [hk] at e2
                  have e2' : wz.cell? ⟨r0 + 1, 2, none⟩ = some (.slice none 0 0) := e2
                  rw [hT0] at e1
                  clear e2 hNz hk
                  go_wp2_with fail
                  obtain ⟨a1, a2, a3, a4, a5, a6, a7⟩ := HZt.out
                  have hct : Chg [tb] wz (wz.setCell ⟨tb, 0, none⟩ (.pointer none)) := (Chg.refl _ _).setCell (.inl (by simp)) _
                  refine bodyPost_end (v := .tuple #[]) (by simp [results, Try.results24, go_sem]) rfl ⟨rfl, ⟨HB.out.1.del _, HB.out.2.1, .pointer none, ?_, .inl ⟨rfl, by rw [← a5, hen], (a1.tree HB.out.2.1 hct).empty⟩⟩, a7.trans (below_tb htlz hct)⟩
                  rw [setCell_heap a6, ← HZ.out]
                  rfl
                · rw [hk] at e2
                  have e2' : wz.cell? ⟨r0 + 1, 2, none⟩ = some (.slice (some ⟨r0 + 2, 0, none⟩) 1 32) := e2
                  have e4 : wz.cell? ⟨r0 + 2, 0, none⟩ = some (.pointer (some ⟨k.root + 1, 0, none⟩)) := hNz.kid hk (i := 0) (by simp)
                  rw [hT0] at e1
                  clear e2 hNz hk
                  go_wp2_with fail
                  obtain ⟨a1, a2, a3, a4, a5, a6, a7⟩ := HZt.out
                  have hct : Chg [tb] wz (wz.setCell ⟨tb, 0, none⟩ (.pointer (some ⟨k.root + 1, 0, none⟩))) := (Chg.refl _ _).setCell (.inl (by simp)) _
                  refine bodyPost_end (v := .tuple #[]) (by simp [results, Try.results24, go_sem]) rfl ⟨rfl, ⟨HB.out.1.del _, HB.out.2.1, ptr k.root, ?_, .inr ⟨d2, k, _, rfl, a1.tree HB.out.2.1 hct, hkh, k.ok_mono hkok (by have := (k.ok_len hkok).1; omega), by rw [hken, a5]⟩⟩, a7.trans (below_tb htlz hct)⟩
                  rw [setCell_heap a6, ← HZ.out]
                  rfl
              · have hTi : (T.its.length : Int) ≠ 0 := by omega
                clear e2 hNz
                go_wp2_with fail
                obtain ⟨a1, a2, a3, a4, a5, a6, a7⟩ := HZt.out
                refine bodyPost_end (v := .tuple #[]) (by simp [results, Try.results24, go_sem]) rfl ⟨rfl, ⟨HB.out.1.del _, HB.out.2.1, ptr r0, ?_, .inr ⟨dd, T, _, by rw [a3], a1, a2, T.ok_mono a4 (by omega), a5⟩⟩, a7⟩
                rw [a6, ← HZ.out]
            · have z8 : ¬ (15 : Int) < (r.its.length : Int) := by omega
              have hits := HITS.out.1
              have HG : Calls Try.prog 54 #[.pointer (some ⟨tb, 0, none⟩), ptr b, .int .i64 (i : Nat)] w5 fun e w' => ∃ (m : Tr d') (σ2 : Store), e = .returned (ptr m.root) ∧ Env F (tb + 1) σ2 w' ∧ Below (tb + 1) w5 w' ∧
                  Has σ2 (node b (its.take i ++ its.drop (i + 1)) (A ++ m :: C)) ∧ Upd σ' σ2 (node b its (A ++ c :: r :: C)).ids (node b (its.take i ++ its.drop (i + 1)) (A ++ m :: C)).ids ∧ m.Ok 15 ∧ m.its.length = 31 ∧ m.ents = c.ents ++ y :: r.ents := by
                have hh := HU.out.2.2.2.1
                have hkl : (A ++ c :: r :: C).length = its.length + 1 := HU.out.2.2.2.2.1.2.2.1
                have h1 := merge_tree F (tb + 1) tb b (its.take i) (its.drop (i + 1)) y A c r C σ' w5 hgen (Nat.lt_succ_self _) HU.out.2.2.1 (by rw [← hits]; exact hh) (by rw [List.length_take, hA0.out]; omega) (by rw [← hits]; exact hkl) HU.out.2.2.2.2.1.2.2.2 (by omega) (by omega)
                rw [hA0.out, ← hits] at h1
                exact h1
              clear hits
              unfold ptr at *
              go_wp2_with fail
              refine HG.mono ?_
              rintro e w6 ⟨m, σ2, rfl, he2, hb2, hh2, hu2, hmok, hm31, hme⟩
              obtain ⟨hrb, hh1, he, hh, hok, hm15, hml', hs, hkin, hbw, hwand⟩ := HU.out
              obtain ⟨hits, hyk, _⟩ := HITS.out
              have hkl : (A ++ c :: r :: C).length = its.length + 1 := hok.2.2.1
              have hA := hA0.out
              have hA' : A.length = (its.take i).length := by rw [List.length_take]; omega
              have hC' : C.length = (its.drop (i + 1)).length := by rw [List.length_drop]; simp at hkl; omega
              have hen2 : ∀ c2 : Tr d', (node b (its.take i ++ its.drop (i + 1)) (A ++ c2 :: C)).ents = pre (its.take i) (A.map Tr.ents) ++ c2.ents ++ post (its.drop (i + 1)) (C.map Tr.ents) := fun c2 => ents_at b _ _ A C c2 hA' hC'
              have hsame : (node b (its.take i ++ its.drop (i + 1)) (A ++ m :: C)).ents = (node b its (A ++ c :: r :: C)).ents := by
                rw [hen2, hme, HENT.out]; simp
              have hnl : (its.take i ++ its.drop (i + 1)).length + 1 = its.length := by simp; omega
              have hok2 : (node b (its.take i ++ its.drop (i + 1)) (A ++ m :: C)).Ok m' := by
                refine ⟨by show m' ≤ (its.take i ++ its.drop (i + 1)).length; omega, by show (its.take i ++ its.drop (i + 1)).length ≤ 31; omega, ?_, ?_⟩
                · show (A ++ m :: C).length = (its.take i ++ its.drop (i + 1)).length + 1
                  simp at hkl ⊢; omega
                · intro k hk
                  have hk' : k ∈ A ++ m :: C := hk
                  have hall : ∀ k ∈ A ++ c :: r :: C, k.Ok 15 := hok.2.2.2
                  simp only [List.mem_append, List.mem_cons] at hk'
                  rcases hk' with h | rfl | h
                  · exact hall k (by simp [h])
                  · exact hmok
                  · exact hall k (by simp [h])
              have hs2 : Sorted (node b its (A ++ c :: r :: C)).ents := hs
              have hs3 := hs2
              rw [HENT.out] at hs3
              have hL : ∀ e ∈ pre (its.take i) (A.map Tr.ents), kc e.key ky < 0 := fun e he => by
                rw [← hyk]
                have h1 : Sorted (pre (its.take i) (A.map Tr.ents) ++ (c.ents ++ y :: r.ents ++ post (its.drop (i + 1)) (C.map Tr.ents))) := by simpa using hs3
                exact h1.cross he (by simp)
              have hR : ∀ e ∈ post (its.drop (i + 1)) (C.map Tr.ents), kc ky e.key < 0 := fun e he => by
                rw [← hyk]
                exact hs3.cross (a := pre (its.take i) (A.map Tr.ents) ++ c.ents ++ y :: r.ents) (by simp) he
              have hak : A.length ≤ (its.take i ++ its.drop (i + 1)).length := by omega
              have hwd := (hwand.pass (t' := node b (its.take i ++ its.drop (i + 1)) (A ++ m :: C)) hu2 rfl hsame).down hh2 hok2 (Nat.zero_le _) (by
                have t1 : (its.take i ++ its.drop (i + 1)).take A.length = its.take i := by rw [hA', List.take_left]
                have t2 : (its.take i ++ its.drop (i + 1)).drop A.length = its.drop (i + 1) := by rw [hA', List.drop_left]
                rw [t1, t2]
                exact delL_mid hL hR)
              have hsm : Sorted m.ents := by
                rw [← hsame, hen2] at hs2
                exact hs2.left.right
              have hkm : ∃ e ∈ m.ents, e.key = ky := ⟨y, by rw [hme]; simp, hyk⟩
              have hh3 := (hb2.block tb (Nat.lt_succ_self _)).trans hh1
              have hchm := hh2.child (c := m) (by simp)
              clear hrb hh1 he hh hok hm15 hml' hs hkin hwand hsame hen2 hok2 hs2 hs3 hL hR hak hits hyk hA hA' hC' hkl hnl hh2 hu2 hme
              go_wp2_with fail
              go_roundg (gk - 1)
              case measure => omega
              case rel => exact ⟨d', m, 15, σ2, rfl, by omega, hh3, he2, hchm, hmok, Nat.le_refl _, by omega, hsm, hkm, hbw.trans (hb2.mono (Nat.le_succ _)), hwd⟩
        · have hff : foundB its ky i = false := by simpa using hf
          have hf' : foundB (Tr.its (d := d' + 1) (b, its, ks)) ky i = false := hff
          rw [hf']
          obtain ⟨A, c, C, rfl, hA, hC, hents⟩ := node_around (b := b) HU.out.2.2.2.2.1 (i := i) hile'
          subst hA
          have HG := grow_tree F (tb + 1) tb b its A c C σ' w5 hgen (Nat.lt_succ_self _) HU.out.2.2.1 HU.out.2.2.2.1 hkl0 (by omega) HU.out.2.2.2.2.1.2.2.2
          have HF : Hid (foundB its ky A.length = false ∧ Sorted its) := ⟨hff, hsits⟩
          clear hf hff hf' hents hC hkl0
          unfold ptr at *
          go_wp2_with fail
          refine HG.mono ?_
          rintro e w6 ⟨its', A', c', C', σ2, rfl, he2, hb2, hgr⟩
          obtain ⟨hrb, hh1, he, hh, hok, hm15, hml', hs, hkin, hbw, hwand⟩ := HU.out
          obtain ⟨p1, p2, p3, p4, p5, p6⟩ := del_down hwand hgr hok hmli hs HP.out.lo (HP.out.hi HF.out.2 HF.out.1) hkin
          have hh2 := (hb2.block tb (Nat.lt_succ_self _)).trans hh1
          clear hrb hh1 he hh hok hm15 hml' hs hkin hwand hgr
          go_wp2_with fail
          go_roundg (gk - 1)
          case measure => omega
          case rel => exact ⟨d', c', 15, σ2, rfl, by omega, hh2, he2, p1, p2, Nat.le_refl _, p3, p4, p5, hbw.trans (hb2.mono (Nat.le_succ _)), p6⟩
end Go.Proofs.Qxb6603401a
