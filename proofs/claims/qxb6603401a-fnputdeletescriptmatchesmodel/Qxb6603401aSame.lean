import Derived.Test.Qxb6603401aCheckY
namespace Go.Proofs.Qxb6603401a
open Go Go.RowKit Go.Deep
set_option linter.unusedSimpArgs false
set_option linter.unusedVariables false

/-- Every item's bytes can be read. -/
def Rd (w : World) (es : List It) : Prop := ∀ e ∈ es, e.vn ≤ 1048576 ∧ Byt w e.va e.vn e.vc
theorem Rd.chg {w w' : World} {es : List It} (h : Rd w es) (hb : Chg [] w w') : Rd w' es := fun e he => ⟨(h e he).1, (h e he).2.chg hb⟩

set_option maxHeartbeats 4000000 in
set_option maxRecDepth 100000 in
theorem same_entries {E1 E2 : Nat} {v1 v2 : Value} {ml : List It} {w : World} (h1 : EsAt E1 w v1 ml) (h2 : EsAt E2 w v2 ml) (hr : Rd w ml) (hn : ml.length ≤ 1048576) :
    Calls Try.prog 17 #[v1, v2] w fun e w' => e = .returned (.bool true) ∧ Chg [] w w' := by
  by_cases h0 : ml = []
  · subst h0
    obtain ⟨a1, c1, rfl⟩ : ∃ a c, v1 = .slice a 0 c := by
      rcases h1.forms with ⟨rfl, _⟩ | ⟨g, cap, rfl, _⟩
      · exact ⟨_, _, rfl⟩
      · exact ⟨_, _, rfl⟩
    obtain ⟨a2, c2, rfl⟩ : ∃ a c, v2 = .slice a 0 c := by
      rcases h2.forms with ⟨rfl, _⟩ | ⟨g, cap, rfl, _⟩
      · exact ⟨_, _, rfl⟩
      · exact ⟨_, _, rfl⟩
    clear h1 h2 hr hn
    go_enter Try.func17, Try.ntmps17
    go_wp2
    refine wp_loop_rounds 1 ?_
    rw [rounds_succ]
    go_wp2
    go_ret
    exact ⟨rfl, Chg.refl _ _⟩
  rcases h1.forms with ⟨_, h⟩ | ⟨g1, cap1, rfl, hB1, hg1⟩
  · exact absurd h h0
  rcases h2.forms with ⟨_, h⟩ | ⟨g2, cap2, rfl, hB2, hg2⟩
  · exact absurd h h0
  have HC : Hid ((∀ i x, ml[i]? = some x → w.cell? ⟨g1, i * 2, none⟩ = some (.string x.key) ∧ w.cell? ⟨g1, i * 2 + 1, none⟩ = some (.slice x.va x.vn x.vc)) ∧ (∀ i x, ml[i]? = some x → w.cell? ⟨g2, i * 2, none⟩ = some (.string x.key) ∧ w.cell? ⟨g2, i * 2 + 1, none⟩ = some (.slice x.va x.vn x.vc)) ∧ Rd w ml) :=
    ⟨fun i x hi => ⟨h1.cellK' rfl hi, h1.cellV' rfl hi⟩, fun i x hi => ⟨h2.cellK' rfl hi, h2.cellV' rfl hi⟩, hr⟩
  clear h1 h2 hr h0
  generalize hnn : ml.length = n at *
  have HN : Hid (ml.length = n) := hnn
  clear hnn
  go_enter Try.func17, Try.ntmps17
  go_wp2
  go_loopg [5] n (fun gg i wr => ∃ k : Nat, k ≤ n ∧ gg = n - k ∧ i = .int .i64 k ∧ Chg [] w wr)
  case atStart => exact ⟨0, by omega, by omega, rfl, Chg.refl _ _⟩
  case round =>
    obtain ⟨k, hk, hgg, rfl, hch⟩ := hrel
    have HG : Hid (gk = n - k) := hgg
    have HCH : Hid (Chg [] w wr) := hch
    clear hgg hch
    by_cases hlt : k < n
    · obtain ⟨x, hx⟩ : ∃ x, ml[k]? = some x := ⟨_, List.getElem?_eq_getElem (by rw [HN.out]; exact hlt)⟩
      obtain ⟨ha, hb⟩ := HC.out.1 k x hx
      obtain ⟨hc, hd⟩ := HC.out.2.1 k x hx
      have ha1 := HCH.out.cell ha (by simp)
      have hb1 := HCH.out.cell hb (by simp)
      have hc1 := HCH.out.cell hc (by simp)
      have hd1 := HCH.out.cell hd (by simp)
      have hrx := HC.out.2.2 x (List.mem_of_getElem? hx)
      have HSB := same_bytes ((hrx.2.chg HCH.out).chg (Chg.refl _ _).drew) hrx.1
      have z1 : (0 : Int) ≤ (k : Int) := Int.natCast_nonneg _
      have z2 : (k : Int) < (n : Int) := by omega
      obtain ⟨xk, xa, xn, xc⟩ := x
      simp only at ha1 hb1 hc1 hd1 HSB
      have hkk : (xk.toList == xk.toList) = true := by simp
      clear ha hb hc hd hx hrx
      go_wp2_with fail
      refine wp_region_T [0, 1, 2, 3, 4, 5, 6, 7, 8, 9, 10, 11, 12, 13, 14, 15, 16, 17, 18, 19, 20, 21] [] (fun W => (W.cell? ⟨g1, k * 2, none⟩ = some (.string xk) ∧ W.cell? ⟨g1, k * 2 + 1, none⟩ = some (.slice xa xn xc)) ∧ (W.cell? ⟨g2, k * 2, none⟩ = some (.string xk) ∧ W.cell? ⟨g2, k * 2 + 1, none⟩ = some (.slice xa xn xc))) 3 (by kernel_rfl) (by kernel_rfl) ⟨⟨ha1, hb1⟩, hc1, hd1⟩ ?_
      iterate 22 (apply wpTake_cons rfl rfl (by rfl); (next => intro W hW; have hW1 := hW.1.1; have hW2 := hW.1.2; have hW3 := hW.2.1; have hW4 := hW.2.2; clear hW; go_simp; first | done | with_reducible rfl | (go_bits; first | done | with_reducible rfl | (go_simp; first | done | with_reducible rfl))); simp only [List.setIfInBounds_toArray, List.set_cons_zero, List.set_cons_succ])
      refine wpTake_nil ?_
      refine wpAnyT_one (r := 22) (by kernel_rfl) rfl ?_
      intro K hK
      go_simp
      refine HSB.mono ?_
      rintro e w5 ⟨rfl, hc5⟩
      have hc5' : Chg [] wr w5 := hc5.of_drew
      refine hK.out _ _ ⟨fun _ => ⟨⟨hc5'.cell ha1 (by simp), hc5'.cell hb1 (by simp)⟩, hc5'.cell hc1 (by simp), hc5'.cell hd1 (by simp)⟩, ?_⟩
      clear hK K
      try simp only [Act.put, List.setIfInBounds_toArray, List.set_cons_zero, List.set_cons_succ]
      have hS5 : (w5.cell? ⟨g1, k * 2, none⟩ = some (.string xk) ∧ w5.cell? ⟨g1, k * 2 + 1, none⟩ = some (.slice xa xn xc)) ∧ (w5.cell? ⟨g2, k * 2, none⟩ = some (.string xk) ∧ w5.cell? ⟨g2, k * 2 + 1, none⟩ = some (.slice xa xn xc)) := ⟨⟨hc5'.cell ha1 (by simp), hc5'.cell hb1 (by simp)⟩, hc5'.cell hc1 (by simp), hc5'.cell hd1 (by simp)⟩
      refine wpAnyT_one (r := 23) (by kernel_rfl) rfl ?_
      intro K hK
      go_simp
      refine hK.out _ _ ⟨fun _ => hS5, ?_⟩
      clear hK K
      refine wpAnyT_one (r := 24) (by kernel_rfl) rfl ?_
      intro K hK
      go_simp
      refine hK.out _ _ ⟨fun _ => hS5, ?_⟩
      clear hK K
      refine wpAnyT_done (by kernel_rfl) ?_ _
      refine NoPanic.normal ?_
      go_wp2_with fail
      go_roundg (n - (k + 1))
      case measure => have := HG.out; omega
      case rel => exact ⟨k + 1, by omega, rfl, by go_num, HCH.out.trans hc5'⟩
    · obtain rfl : k = n := by omega
      go_wp2
      go_ret
      exact ⟨rfl, HCH.out⟩
end Go.Proofs.Qxb6603401a
