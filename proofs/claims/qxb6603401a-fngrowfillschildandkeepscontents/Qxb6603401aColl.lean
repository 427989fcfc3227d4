import Derived.Test.Qxb6603401aChild
namespace Go.Proofs.Qxb6603401a
open Go Go.RowKit Go.Deep
set_option linter.unusedSimpArgs false
set_option linter.unusedVariables false

theorem EsAt.slice {B : Nat} {w : World} {v : Value} {ml : List It} (h : EsAt B w v ml) : ∃ a n c, v = .slice a n c := by
  rcases h.forms with ⟨rfl, _⟩ | ⟨g, cap, rfl, _⟩
  · exact ⟨_, _, _, rfl⟩
  · exact ⟨_, _, _, rfl⟩
theorem Env.chgE {B E : Nat} {σ : Store} {w w' : World} {o : Value} {ml : List It} (h : Env noKeep B σ w) (ho : EsAt E w o ml) (hc : Chg (own o) w w') : Env noKeep B σ w' :=
  h.aside hc (fun b nd hs x hx hx2 => by
    obtain ⟨c', T, h1, h2⟩ := (h.rep b nd hs).types x hx
    obtain ⟨_, c2, h3⟩ := ho.typed hx2
    rw [h3] at h1
    simp only [Option.some.injEq, Obj.cells.injEq] at h1
    obtain ⟨_, rfl, _⟩ := h1
    rcases h2 with ⟨_, e, _⟩ | ⟨_, e⟩ | ⟨_, e⟩ <;> exact absurd e (by decide)) (fun b o hb _ => by cases hb)
/-- One entry more, as the append leaves it. -/
theorem es_more {E : Nat} {w w1 : World} {v : Value} {ml : List It} (x : It) {g cap : Nat} {o : Obj}
    (hown : w1.ownsRow E 70 2 (.slice (some ⟨g, 0, none⟩) (ml.length + 1) cap) (ml.length + 1) (flat ml ++ [.string x.key, .slice x.va x.vn x.vc])) (hgrow : (w.alloc o).grownBy w1 v.ownBlock) (hat : v.ownBlock = some g ∨ g = w.heap.size + 1) :
    EsAt E w1 (.slice (some ⟨g, 0, none⟩) (ml.length + 1) cap) (ml ++ [x]) ∧ RS v w (.slice (some ⟨g, 0, none⟩) (ml.length + 1) cap) w1 := by
  refine ⟨?_, ((Chg.refl _ _).alloc _).trans (chg_of_grown hgrow), fun g' hg' => ?_⟩
  · unfold EsAt
    rw [flat_append, List.length_append]
    exact hown
  · have e1 : g = g' := by simpa [Value.ownBlock] using hg'
    subst e1
    rcases hat with h1 | h1
    · exact .inl h1
    · exact .inr (by omega)

def CollSpec (d : Nat) : Prop := ∀ (t : Tr d) (m dep B E : Nat) (σ : Store) (w : World) (v : Value) (ml : List It), Env noKeep B σ w → t.In σ → t.Ok m → dep + d ≤ 64 → EsAt E w v ml → E ≤ w.heap.size → (ml ++ t.ents).length ≤ 1048576 →
    Calls Try.prog 39 #[ptr t.root, .int .i64 (dep : Nat), v] w fun e w' => ∃ v', e = .returned v' ∧ EsAt E w' v' (ml ++ t.ents) ∧ RS v w v' w'

set_option maxHeartbeats 4000000 in
set_option maxRecDepth 100000 in
theorem coll_zero : CollSpec 0 := by
  intro t m dep B E σ w v ml he hI hok hdep hv hE hn
  obtain ⟨b, its⟩ := t
  show Calls Try.prog 39 #[ptr b, .int .i64 (dep : Nat), v] w fun e w' => ∃ v', e = .returned v' ∧ EsAt E w' v' (ml ++ its) ∧ RS v w v' w'
  have hn' : (ml ++ its).length ≤ 1048576 := hn
  have hI' : σ b = some ⟨its, none⟩ := hI
  have hl31 : its.length ≤ 31 := hok.2
  clear hok hn hI
  obtain ⟨va, vn, vc, rfl⟩ := hv.slice
  obtain ⟨i0, hi0, hz0, hz1, hz2⟩ := info70
  have hN := he.rep b _ hI'
  have A40 := acc40 b its.length w hN.hdr
  have A36 := acc36 b none 0 0 w hN.khdr
  simp only [Option.isNone] at A36
  have hz := binNil30
  have z1 : (0 : Int) ≤ (dep : Int) := Int.natCast_nonneg _
  have z2 : (dep : Int) ≤ 64 := by omega
  have HH : Hid (Env noKeep B σ w ∧ σ b = some ⟨its, none⟩ ∧ EsAt E w (.slice va vn vc) ml ∧ E ≤ w.heap.size ∧ (ml ++ its).length ≤ 1048576) := ⟨he, hI', hv, hE, hn'⟩
  clear hN he hI' hv hn' hE
  unfold ptr at A40 A36 ⊢
  go_enter Try.func39, Try.ntmps39
  go_wp2_with fail
  refine A40.mono ?_
  rintro e w1 ⟨rfl, rfl⟩
  go_wp2_with fail
  refine A36.mono ?_
  rintro e w1 ⟨rfl, rfl⟩
  clear A40 A36
  go_wp2_with fail
  go_loopg [2, 8] its.length (fun gg vs i wr => ∃ j : Nat, j ≤ its.length ∧ gg = its.length - j ∧ i = .int .i64 j ∧ EsAt E wr vs (ml ++ its.take j) ∧ RS (.slice va vn vc) w vs wr)
  case atStart => exact ⟨0, by omega, by omega, rfl, by simpa using HH.out.2.2.1, RS.refl _ _⟩
  case round =>
    obtain ⟨j, hj, hgg, rfl, hes, hrs⟩ := hrel
    have HG : Hid (gk = its.length - j) := hgg
    obtain ⟨ua, un, uc, rfl⟩ := hes.slice
    have hej := HH.out.1.chgE HH.out.2.2.1 hrs.chg
    have hEj : E ≤ wr.heap.size := Nat.le_trans HH.out.2.2.2.1 hrs.chg.size
    have HJ : Hid (EsAt E wr (.slice ua un uc) (ml ++ its.take j) ∧ RS (.slice va vn vc) w (.slice ua un uc) wr) := ⟨hes, hrs⟩
    clear hgg hrs
    have zj : (0 : Int) ≤ (j : Int) := Int.natCast_nonneg _
    by_cases hlt : j < its.length
    · have zj2 : (j : Int) < (its.length : Int) := by omega
      have hNj := hej.rep b _ HH.out.2.1
      obtain ⟨x, hx⟩ : ∃ x, its[j]? = some x := ⟨_, List.getElem?_eq_getElem hlt⟩
      have hxe : its[j] = x := by rw [List.getElem?_eq_getElem hlt] at hx; exact Option.some.inj hx
      have hat := hNj.items.at hlt
      rw [hxe] at hat
      have A61 := acc61 b j its.length x.key wr hNj.hdr hlt hat.1
      have A62 := acc62 b j its.length x.va x.vn x.vc wr hNj.hdr hlt hat.2
      have hrl2 : (ml ++ its.take j).length + 1 ≤ 1048576 := by
        have := HH.out.2.2.2.2
        simp only [List.length_append, List.length_take] at this ⊢
        omega
      have HTK : Hid (ml ++ its.take j ++ [x] = ml ++ its.take (j + 1)) := by
        show _ = _
        rw [List.take_succ_eq_append_getElem hlt, hxe, List.append_assoc]
      generalize ml ++ its.take j = mj at *
      obtain ⟨xk, xa, xn, xc⟩ := x
      simp only at A61 A62
      have hb1 := heap_alloc_new wr (.cells #[.string xk, .slice xa xn xc] 70)
      have ho1 := World.ownsRow.alloc (w := wr) hes (.cells #[.string xk, .slice xa xn xc] 70)
      clear hNj hx hxe hat hes hej
      unfold ptr at A61 A62
      go_wp2_with fail
      refine A61.mono ?_
      rintro e w1 ⟨rfl, rfl⟩
      go_wp2_with fail
      refine A62.mono ?_
      rintro e w1 ⟨rfl, rfl⟩
      clear A61 A62
      go_wp2_with (at_builtin; refine wpList_append_lies _ rfl _ _ 34 rfl E 70 i0 _ 2 40 Try.underlying34 hi0 hz0 hz1 hz2 rfl (by decide) _ _ _ rfl ho1 ⟨wr.heap.size, 0, none⟩ 1 1 [.string xk, .slice xa xn xc] rfl rfl (World.news_of_block hb1) ?c1 (by decide) ?c2 ?c3 ?c4 _ rfl ?_)
      case c1 => intro u hu; simp only [List.mem_cons, List.not_mem_nil, or_false] at hu; rcases hu with rfl | rfl <;> rfl
      case c2 => unfold maxLen; omega
      case c3 => omega
      case c4 => simp only [World.size_alloc]; omega
      intro g2 cap2 w4 hown2 hgrow hat hlt2
      have hrm := es_more ⟨xk, xa, xn, xc⟩ hown2 hgrow hat
      rw [HTK.out] at hrm
      have HR4 : Hid _ := hrm
      clear hown2 hgrow hat hlt2 hb1 ho1 hrm
      go_wp2_with fail
      go_roundg (its.length - (j + 1))
      case measure => have := HG.out; omega
      case rel => exact ⟨j + 1, by omega, rfl, by go_num, HR4.out.1, HJ.out.2.trans HR4.out.2⟩
    · obtain rfl : j = its.length := by omega
      have HJ2 : Hid (EsAt E wr (.slice ua un uc) (ml ++ its)) := by
        have := HJ.out.1
        rw [List.take_length] at this
        exact this
      clear hes hej
      go_wp2_with fail
      go_ret
      exact ⟨_, rfl, HJ2.out, HJ.out.2⟩

set_option maxHeartbeats 8000000 in
set_option maxRecDepth 100000 in
theorem coll_succ (d : Nat) (IH : CollSpec d) : CollSpec (d + 1) := by
  intro t m dep B E σ w v ml he hI hok hdep hv hE hn
  obtain ⟨b, its, ks⟩ := t
  show Calls Try.prog 39 #[ptr b, .int .i64 (dep : Nat), v] w fun e w' => ∃ v', e = .returned v' ∧ EsAt E w' v' (ml ++ (node b its ks).ents) ∧ RS v w v' w'
  have hkl : ks.length = its.length + 1 := hok.2.2.1
  have hl31 : its.length ≤ 31 := hok.2.1
  obtain ⟨va, vn, vc, rfl⟩ := hv.slice
  obtain ⟨i0, hi0, hz0, hz1, hz2⟩ := info70
  have hN := he.rep b _ hI.1
  have h2 : w.cell? ⟨b + 1, 2, none⟩ = some (.slice (some ⟨b + 2, 0, none⟩) (its.length + 1) 32) := by
    have : w.cell? ⟨b + 1, 2, none⟩ = some (.slice (some ⟨b + 2, 0, none⟩) (ks.map Tr.root).length 32) := hN.khdr
    rw [List.length_map, hkl] at this
    exact this
  have A40 := acc40 b its.length w hN.hdr
  have A36 := acc36 b _ _ _ w h2
  have A37 := acc37 b _ _ _ w h2
  simp only [Option.isNone] at A36
  have hz := binNil30
  have z1 : (0 : Int) ≤ (dep : Int) := Int.natCast_nonneg _
  have z2 : (dep : Int) ≤ 64 := by omega
  have HH : Hid (Env noKeep B σ w ∧ (node b its ks).In σ ∧ EsAt E w (.slice va vn vc) ml ∧ E ≤ w.heap.size ∧ (ml ++ (node b its ks).ents).length ≤ 1048576 ∧ (node b its ks).Ok m) := ⟨he, hI, hv, hE, hn, hok⟩
  -- a child's contract, in any later world
  have HCH : Hid (∀ W v1 j, (hj : j < ks.length) → Env noKeep B σ W → EsAt E W v1 (ml ++ pre (its.take j) ((ks.take j).map Tr.ents)) → E ≤ W.heap.size → Calls Try.prog 38 #[ptr b, .int .i64 (j : Nat)] W (fun e w' => e = .returned (ptr ks[j].root) ∧ W = w') ∧ Calls Try.prog 39 #[ptr ks[j].root, .int .i64 ((dep : Nat) + 1), v1] W fun e w' => ∃ v', e = .returned v' ∧ EsAt E w' v' (ml ++ pre (its.take j) ((ks.take j).map Tr.ents) ++ ks[j].ents) ∧ RS v1 W v' w') := fun W v1 j hj hW hv1 hE1 => by
    have hNj := hW.rep b _ hI.1
    have h2j : W.cell? ⟨b + 1, 2, none⟩ = some (.slice (some ⟨b + 2, 0, none⟩) (its.length + 1) 32) := by
      have : W.cell? ⟨b + 1, 2, none⟩ = some (.slice (some ⟨b + 2, 0, none⟩) (ks.map Tr.root).length 32) := hNj.khdr
      rw [List.length_map, hkl] at this
      exact this
    have hkid : W.cell? ⟨b + 2, j, none⟩ = some (ptr ks[j].root) := by
      have hk' : j < (ks.map Tr.root).length := by simpa using hj
      have : W.cell? ⟨b + 2, j, none⟩ = some (ptr (ks.map Tr.root)[j]) := hNj.kid rfl hk'
      rw [List.getElem_map] at this
      exact this
    refine ⟨acc38 b j (its.length + 1) _ W h2j (by omega) hkid, ?_⟩
    have hksp : ks = ks.take j ++ ks[j] :: ks.drop (j + 1) := by rw [List.getElem_cons_drop, List.take_append_drop]
    have hent : (node b its ks).ents = pre (its.take j) ((ks.take j).map Tr.ents) ++ ks[j].ents ++ post (its.drop j) ((ks.drop (j + 1)).map Tr.ents) := by
      have := ents_at b (its.take j) (its.drop j) (ks.take j) (ks.drop (j + 1)) ks[j] (by rw [List.length_take, List.length_take]; omega) (by rw [List.length_drop, List.length_drop]; omega)
      rw [List.take_append_drop, ← hksp] at this
      exact this
    have h9 := IH ks[j] 15 (dep + 1) B E σ W v1 _ hW (hI.2 _ (List.getElem_mem hj)) (hok.2.2.2 _ (List.getElem_mem hj)) (by omega) hv1 hE1 (by
      have h8 : (ml ++ (node b its ks).ents).length ≤ 1048576 := hn
      rw [hent] at h8
      simp only [List.length_append] at h8 ⊢
      omega)
    have ecd : (((dep + 1 : Nat) : Int)) = (dep : Int) + 1 := by omega
    rw [ecd] at h9
    exact h9
  clear hN he hI hv hn hE hok h2 IH
  unfold ptr at A40 A36 A37 ⊢
  go_enter Try.func39, Try.ntmps39
  go_wp2_with fail
  refine A40.mono ?_
  rintro e w1 ⟨rfl, rfl⟩
  go_wp2_with fail
  refine A36.mono ?_
  rintro e w1 ⟨rfl, rfl⟩
  go_wp2_with fail
  refine A37.mono ?_
  rintro e w1 ⟨rfl, rfl⟩
  clear A40 A36 A37
  go_wp2_with fail
  go_loopg [2, 10] its.length (fun gg vs i wr => ∃ j : Nat, j ≤ its.length ∧ gg = its.length - j ∧ i = .int .i64 j ∧ EsAt E wr vs (ml ++ pre (its.take j) ((ks.take j).map Tr.ents)) ∧ RS (.slice va vn vc) w vs wr)
  case atStart => exact ⟨0, by omega, by omega, rfl, by simpa [pre] using HH.out.2.2.1, RS.refl _ _⟩
  case round =>
    obtain ⟨j, hj, hgg, rfl, hes, hrs⟩ := hrel
    have HG : Hid (gk = its.length - j) := hgg
    obtain ⟨ua, un, uc, rfl⟩ := hes.slice
    have hej := HH.out.1.chgE HH.out.2.2.1 hrs.chg
    have hEj : E ≤ wr.heap.size := Nat.le_trans HH.out.2.2.2.1 hrs.chg.size
    have HJ : Hid (RS (.slice va vn vc) w (.slice ua un uc) wr) := hrs
    have hjk : j < ks.length := by omega
    have HC := HCH.out wr _ j hjk hej hes hEj
    clear hgg hrs
    have zj : (0 : Int) ≤ (j : Int) := Int.natCast_nonneg _
    have zj3 : (j : Int) < (its.length : Int) + 1 := by omega
    by_cases hlt : j < its.length
    · have zj2 : (j : Int) < (its.length : Int) := by omega
      obtain ⟨x, hx⟩ : ∃ x, its[j]? = some x := ⟨_, List.getElem?_eq_getElem hlt⟩
      have hxe : its[j] = x := by rw [List.getElem?_eq_getElem hlt] at hx; exact Option.some.inj hx
      have HTK : Hid (ml ++ pre (its.take j) ((ks.take j).map Tr.ents) ++ ks[j].ents ++ [x] = ml ++ pre (its.take (j + 1)) ((ks.take (j + 1)).map Tr.ents)) := by
        show _ = _
        rw [List.take_succ_eq_append_getElem hlt, List.take_succ_eq_append_getElem hjk, List.map_append, List.map_singleton, pre_snoc _ _ _ _ (by simp; omega), hxe]
        simp only [List.append_assoc]
      have hrl2 : (ml ++ pre (its.take j) ((ks.take j).map Tr.ents) ++ ks[j].ents).length + 1 ≤ 1048576 := by
        have h8 := HH.out.2.2.2.2.1
        have hksp : ks = ks.take j ++ ks[j] :: ks.drop (j + 1) := by rw [List.getElem_cons_drop, List.take_append_drop]
        have hent : (node b its ks).ents = pre (its.take j) ((ks.take j).map Tr.ents) ++ ks[j].ents ++ post (its.drop j) ((ks.drop (j + 1)).map Tr.ents) := by
          have := ents_at b (its.take j) (its.drop j) (ks.take j) (ks.drop (j + 1)) ks[j] (by rw [List.length_take, List.length_take]; omega) (by rw [List.length_drop, List.length_drop]; omega)
          rw [List.take_append_drop, ← hksp] at this
          exact this
        have hpo : post (its.drop j) ((ks.drop (j + 1)).map Tr.ents) = its[j] :: (ks[j + 1]'(by omega)).ents ++ post (its.drop (j + 1)) ((ks.drop (j + 2)).map Tr.ents) := by
          rw [← List.getElem_cons_drop hlt, ← List.getElem_cons_drop (show j + 1 < ks.length by omega)]
          rfl
        rw [hent, hpo] at h8
        simp only [List.length_append, List.length_cons] at h8 ⊢
        omega
      have HAC : Hid (∀ W, Env noKeep B σ W → Calls Try.prog 61 #[ptr b, .int .i64 (j : Nat)] W (fun e w' => e = .returned (.string x.key) ∧ W = w') ∧ Calls Try.prog 62 #[ptr b, .int .i64 (j : Nat)] W (fun e w' => e = .returned (.slice x.va x.vn x.vc) ∧ W = w')) := fun W hW => by
        have hIb : σ b = some ⟨its, some (ks.map Tr.root)⟩ := HH.out.2.1.1
        have hNj := hW.rep b _ hIb
        have hat := hNj.items.at hlt
        have hxe' : (its)[j] = x := hxe
        simp only [hxe'] at hat
        exact ⟨acc61 b j its.length x.key W hNj.hdr hlt hat.1, acc62 b j its.length x.va x.vn x.vc W hNj.hdr hlt hat.2⟩
      generalize ml ++ pre (its.take j) ((ks.take j).map Tr.ents) ++ ks[j].ents = mj at *
      generalize ks[j].root = kr at *
      obtain ⟨xk, xa, xn, xc⟩ := x
      have HEJ : Hid (Env noKeep B σ wr ∧ EsAt E wr (.slice ua un uc) (ml ++ pre (its.take j) ((ks.take j).map Tr.ents))) := ⟨hej, hes⟩
      clear hx hxe hes hej
      unfold ptr at HC
      go_wp2_with fail
      refine HC.1.mono ?_
      rintro e w1 ⟨rfl, rfl⟩
      go_wp2_with fail
      refine HC.2.mono ?_
      clear HC
      rintro e w3 ⟨v3, rfl, hes3, hrs3⟩
      obtain ⟨ta, tn, tc, rfl⟩ := hes3.slice
      have he3 := HEJ.out.1.chgE HEJ.out.2 hrs3.chg
      have hE3 : E ≤ w3.heap.size := Nat.le_trans hEj hrs3.chg.size
      have HA := HAC.out w3 he3
      unfold ptr at HA
      try simp only at HA
      have hb1 := heap_alloc_new w3 (.cells #[.string xk, .slice xa xn xc] 70)
      have ho1 := World.ownsRow.alloc (w := w3) hes3 (.cells #[.string xk, .slice xa xn xc] 70)
      have HJ3 : Hid (RS (.slice va vn vc) w (.slice ta tn tc) w3) := HJ.out.trans hrs3
      clear hes3 hrs3 he3
      go_wp2_with fail
      refine HA.1.mono ?_
      rintro e w1 ⟨rfl, rfl⟩
      go_wp2_with fail
      refine HA.2.mono ?_
      rintro e w1 ⟨rfl, rfl⟩
      clear HA
      go_wp2_with (at_builtin; refine wpList_append_lies _ rfl _ _ 34 rfl E 70 i0 _ 2 40 Try.underlying34 hi0 hz0 hz1 hz2 rfl (by decide) _ _ _ rfl ho1 ⟨w3.heap.size, 0, none⟩ 1 1 [.string xk, .slice xa xn xc] rfl rfl (World.news_of_block hb1) ?c1 (by decide) ?c2 ?c3 ?c4 _ rfl ?_)
      case c1 => intro u hu; simp only [List.mem_cons, List.not_mem_nil, or_false] at hu; rcases hu with rfl | rfl <;> rfl
      case c2 => unfold maxLen; omega
      case c3 => omega
      case c4 => simp only [World.size_alloc]; omega
      intro g2 cap2 w4 hown2 hgrow hat hlt2
      have hrm := es_more ⟨xk, xa, xn, xc⟩ hown2 hgrow hat
      rw [HTK.out] at hrm
      have HR4 : Hid _ := hrm
      clear hown2 hgrow hat hlt2 hb1 ho1 hrm
      go_wp2_with fail
      go_roundg (its.length - (j + 1))
      case measure => have := HG.out; omega
      case rel => exact ⟨j + 1, by omega, rfl, by go_num, HR4.out.1, HJ3.out.trans HR4.out.2⟩
    · obtain rfl : j = its.length := by omega
      have HE : Hid (ml ++ pre (its.take its.length) ((ks.take its.length).map Tr.ents) ++ ks[its.length].ents = ml ++ (node b its ks).ents) := by
        have hksp : ks = ks.take its.length ++ ks[its.length] :: ks.drop (its.length + 1) := by rw [List.getElem_cons_drop, List.take_append_drop]
        have hent : (node b its ks).ents = pre (its.take its.length) ((ks.take its.length).map Tr.ents) ++ ks[its.length].ents ++ post (its.drop its.length) ((ks.drop (its.length + 1)).map Tr.ents) := by
          have := ents_at b (its.take its.length) (its.drop its.length) (ks.take its.length) (ks.drop (its.length + 1)) ks[its.length] (by rw [List.length_take, List.length_take]; omega) (by rw [List.length_drop, List.length_drop]; omega)
          rw [List.take_append_drop, ← hksp] at this
          exact this
        show _ = _
        rw [hent, List.drop_length]
        simp [post]
      generalize ml ++ pre (its.take its.length) ((ks.take its.length).map Tr.ents) ++ ks[its.length].ents = mj at *
      generalize ks[its.length].root = kr at *
      clear hes hej hlt
      unfold ptr at HC
      go_wp2_with fail
      refine HC.1.mono ?_
      rintro e w1 ⟨rfl, rfl⟩
      go_wp2_with fail
      refine HC.2.mono ?_
      clear HC
      rintro e w3 ⟨v3, rfl, hes3, hrs3⟩
      have HR : Hid (EsAt E w3 v3 (ml ++ (node b its ks).ents) ∧ RS (.slice va vn vc) w v3 w3) := ⟨by rw [← HE.out]; exact hes3, HJ.out.trans hrs3⟩
      clear hes3 hrs3
      go_wp2_with fail
      go_ret
      exact ⟨_, rfl, HR.out.1, HR.out.2⟩

theorem coll_all : ∀ d : Nat, CollSpec d
  | 0 => coll_zero
  | d + 1 => coll_succ d (coll_all d)
end Go.Proofs.Qxb6603401a
