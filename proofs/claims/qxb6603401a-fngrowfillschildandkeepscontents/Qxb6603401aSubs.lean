import Derived.Test.Qxb6603401aColl
namespace Go.Proofs.Qxb6603401a
open Go Go.RowKit Go.Deep
set_option linter.unusedSimpArgs false
set_option linter.unusedVariables false

theorem sorted_dist {es : List It} (h : Sorted es) : Dist es :=
  List.pairwise_iff_getElem.2 fun i j hi hj hij e => by
    have h1 := (List.pairwise_iff_getElem.1 h) i j hi hj hij
    rw [e] at h1
    exact kc_irrefl _ h1

set_option maxHeartbeats 8000000 in
set_option maxRecDepth 100000 in
/-- subsetSorted: a part in the middle of a sorted list. -/
theorem subset_sorted {E1 E2 : Nat} {v1 v2 : Value} {X M Y : List It} {w : World} (h1 : EsAt E1 w v1 M) (h2 : EsAt E2 w v2 (X ++ M ++ Y)) (hs : Sorted (X ++ M ++ Y)) (hr : Rd w M) (hn : (X ++ M ++ Y).length ≤ 1048576) :
    Calls Try.prog 43 #[v1, v2] w fun e w' => e = .returned (.bool true) ∧ Chg [] w w' := by
  by_cases h0 : M = []
  · subst h0
    obtain ⟨a1, c1, rfl⟩ : ∃ a c, v1 = .slice a 0 c := by
      rcases h1.forms with ⟨rfl, _⟩ | ⟨g, cap, rfl, _⟩
      · exact ⟨_, _, rfl⟩
      · exact ⟨_, _, rfl⟩
    obtain ⟨a2, n2, c2, rfl⟩ := h2.slice
    clear h1 h2 hr hn hs
    go_enter Try.func43, Try.ntmps43
    go_wp2
    refine wp_loop_rounds 1 ?_
    rw [rounds_succ]
    go_wp2
    go_ret
    exact ⟨rfl, Chg.refl _ _⟩
  rcases h1.forms with ⟨_, h⟩ | ⟨g1, cap1, rfl, hB1, hg1⟩
  · exact absurd h h0
  rcases h2.forms with ⟨_, h⟩ | ⟨g2, cap2, rfl, hB2, hg2⟩
  · simp at h; exact absurd h.2.1 h0
  have HC : Hid ((∀ i x, M[i]? = some x → w.cell? ⟨g1, i * 2, none⟩ = some (.string x.key) ∧ w.cell? ⟨g1, i * 2 + 1, none⟩ = some (.slice x.va x.vn x.vc)) ∧ (∀ i x, (X ++ M ++ Y)[i]? = some x → w.cell? ⟨g2, i * 2, none⟩ = some (.string x.key) ∧ w.cell? ⟨g2, i * 2 + 1, none⟩ = some (.slice x.va x.vn x.vc)) ∧ Rd w M ∧ Dist (X ++ M ++ Y)) :=
    ⟨fun i x hi => ⟨h1.cellK' rfl hi, h1.cellV' rfl hi⟩, fun i x hi => ⟨h2.cellK' rfl hi, h2.cellV' rfl hi⟩, hr, sorted_dist hs⟩
  have HLN : Hid ((X ++ M ++ Y).length = X.length + M.length + Y.length) := by
    show _ = _
    simp only [List.length_append]
  clear h1 h2 hr h0 hs
  generalize hbb : X ++ M ++ Y = b at *
  have HB : Hid (X ++ M ++ Y = b) := hbb
  clear hbb
  generalize hnn : M.length = n at *
  have HN : Hid (M.length = n) := hnn
  clear hnn
  generalize hmm : b.length = nb at *
  have HM : Hid (b.length = nb) := hmm
  clear hmm
  generalize hxx : X.length = nx at *
  have HXL : Hid (X.length = nx) := hxx
  clear hxx
  have hnb : nx + n ≤ nb := by have := HLN.out; omega
  go_enter Try.func43, Try.ntmps43
  go_wp2_with fail
  go_loopg [5, 6] n (fun gg jv iv wr => ∃ i j : Nat, i ≤ n ∧ j ≤ nx + i ∧ gg = n - i ∧ jv = .int .i64 j ∧ iv = .int .i64 i ∧ Chg [] w wr)
  case atStart => exact ⟨0, 0, by omega, by omega, by omega, rfl, rfl, Chg.refl _ _⟩
  case round =>
    obtain ⟨i, j, hi, hj, hgg, rfl, rfl, hch⟩ := hrel
    have HG : Hid (gk = n - i) := hgg
    have HCH : Hid (Chg [] w wr) := hch
    clear hgg hch
    have zi : (0 : Int) ≤ (i : Int) := Int.natCast_nonneg _
    by_cases hlt : i < n
    · have zi2 : (i : Int) < (n : Int) := by omega
      obtain ⟨x, hx⟩ : ∃ x, M[i]? = some x := ⟨_, List.getElem?_eq_getElem (by rw [HN.out]; exact hlt)⟩
      have hxb : b[nx + i]? = some x := by
        rw [← HB.out, ← HXL.out, List.append_assoc, List.getElem?_append_right (by omega), show X.length + i - X.length = i from by omega, List.getElem?_append_left (by rw [HN.out]; exact hlt)]
        exact hx
      have hrx := HC.out.2.2.1 x (List.mem_of_getElem? hx)
      have ha := HC.out.1 i x hx
      have hb := HC.out.2.1 _ x hxb
      have HXB : Hid (b[nx + i]? = some x) := hxb
      obtain ⟨xk, xa, xn, xc⟩ := x
      simp only at ha hb hrx
      have HX : Hid ((w.cell? ⟨g1, i * 2, none⟩ = some (.string xk) ∧ w.cell? ⟨g1, i * 2 + 1, none⟩ = some (.slice xa xn xc)) ∧ (w.cell? ⟨g2, (nx + i) * 2, none⟩ = some (.string xk) ∧ w.cell? ⟨g2, (nx + i) * 2 + 1, none⟩ = some (.slice xa xn xc)) ∧ xn ≤ 1048576 ∧ Byt w xa xn xc) := ⟨ha, hb, hrx⟩
      clear hx hxb hrx ha hb
      go_wp2_with fail
      go_loopg [5] (nx + i - j) (fun gg jv wi => ∃ j : Nat, j ≤ nx + i ∧ gg = nx + i - j ∧ jv = .int .i64 j ∧ Chg [] w wi)
      case atStart => exact ⟨j, hj, rfl, rfl, HCH.out⟩
      case round =>
        clear HCH hj
        obtain ⟨j, hj, hgg, rfl, hch⟩ := hrel
        have HG2 : Hid (gk = nx + i - j) := hgg
        have HCH : Hid (Chg [] w wr) := hch
        clear hgg
        have zj : (0 : Int) ≤ (j : Int) := Int.natCast_nonneg _
        have zj2 : (j : Int) < (nb : Int) := by omega
        have a1 := hch.cell HX.out.1.1 (by simp)
        by_cases hje : j = nx + i
        · have b1 : wr.cell? ⟨g2, j * 2, none⟩ = some (.string xk) := by rw [hje]; exact hch.cell HX.out.2.1.1 (by simp)
          have a2 := hch.cell HX.out.1.2 (by simp)
          have b2 : wr.cell? ⟨g2, j * 2 + 1, none⟩ = some (.slice xa xn xc) := by rw [hje]; exact hch.cell HX.out.2.1.2 (by simp)
          have HJE : Hid (j = nx + i) := hje
          have hbe : (xk.toList == xk.toList) = true := by simp
          have HSB : Hid (∀ W, Chg [] wr W → Calls Try.prog 28 #[.slice xa xn xc, .slice xa xn xc] W fun e w' => e = .returned (.bool true) ∧ Chg [] W w') := fun W hW => same_bytes ((HX.out.2.2.2.chg HCH.out).chg hW) HX.out.2.2.1
          have zne : ¬ (j : Int) = (nb : Int) := by omega
          have zne2 : j ≠ nb := by omega
          clear hch hje
          go_wp2_with fail
          go_quiet (fail)
          go_wp2_with fail
          refine wp_region_T [0, 1, 2, 3, 4, 5, 6, 7, 8, 9] [] (fun W => W.cell? ⟨g1, i * 2 + 1, none⟩ = some (.slice xa xn xc) ∧ W.cell? ⟨g2, j * 2 + 1, none⟩ = some (.slice xa xn xc)) 2 (by kernel_rfl) (by kernel_rfl) ⟨a2, b2⟩ ?_
          iterate 10 (apply wpTake_cons rfl rfl (by rfl); (next => intro W hW; have hW1 := hW.1; have hW2 := hW.2; clear hW; go_simp; first | done | with_reducible rfl | (go_bits; first | done | with_reducible rfl | (go_simp; first | done | with_reducible rfl))); simp only [List.setIfInBounds_toArray, List.set_cons_zero, List.set_cons_succ])
          refine wpTake_nil ?_
          refine wpAnyT_one (r := 10) (by kernel_rfl) rfl ?_
          intro K hK
          go_simp
          refine (HSB.out _ (((Chg.refl _ _).drewN _).drew)).mono ?_
          rintro e w5 ⟨rfl, hc5⟩
          have hc5' : Chg [] wr w5 := Chg.of_drewN (Chg.of_drew hc5)
          have hS5 : w5.cell? ⟨g1, i * 2 + 1, none⟩ = some (.slice xa xn xc) ∧ w5.cell? ⟨g2, j * 2 + 1, none⟩ = some (.slice xa xn xc) := ⟨hc5'.cell a2 (by simp), hc5'.cell b2 (by simp)⟩
          refine hK.out _ _ ⟨fun _ => hS5, ?_⟩
          clear hK K
          try simp only [Act.put, List.setIfInBounds_toArray, List.set_cons_zero, List.set_cons_succ]
          refine wpAnyT_one (r := 11) (by kernel_rfl) rfl ?_
          intro K hK
          go_simp
          refine hK.out _ _ ⟨fun _ => hS5, ?_⟩
          clear hK K
          refine wpAnyT_done (by kernel_rfl) ?_ _
          refine NoPanic.normal ?_
          have HC5 : Hid (Chg [] w w5) := HCH.out.trans hc5'
          clear hc5 hc5' a1 a2 b1 b2
          go_wp2_with fail
          go_roundg (n - (i + 1))
          case measure => have := HG.out; omega
          case rel => exact ⟨i + 1, j + 1, by omega, by have := HJE.out; omega, rfl, by go_num, by go_num, HC5.out⟩
        · have hjb : j < b.length := by rw [HM.out]; omega
          obtain ⟨y, hy⟩ : ∃ y, b[j]? = some y := ⟨_, List.getElem?_eq_getElem hjb⟩
          have b1 := hch.cell (HC.out.2.1 j y hy).1 (by simp)
          have hne : y.key ≠ xk := fun e => hje (dist_at HC.out.2.2.2 hy HXB.out e)
          have hbe : (y.key.toList == xk.toList) = false := by rw [eq_kc]; simp [hne]
          obtain ⟨yk, ya, yn, yc⟩ := y
          simp only at b1 hbe
          clear hy hne hch hjb
          go_wp2_with fail
          go_quiet (fail)
          go_wp2_with fail
          go_roundg (nx + i - (j + 1))
          case measure => have := HG2.out; omega
          case rel => exact ⟨j + 1, by omega, rfl, by go_num, HCH.out.drewN _⟩
    · obtain rfl : i = n := by omega
      go_wp2_with fail
      go_ret
      exact ⟨rfl, HCH.out⟩
end Go.Proofs.Qxb6603401a
