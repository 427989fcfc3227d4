import Derived.Test.Qxb6603401aRun
import Derived.Test.Qxb6603401aSame
namespace Go.Proofs.Qxb6603401a
open Go Go.RowKit Go.Deep
set_option linter.unusedSimpArgs false
set_option linter.unusedVariables false

/-- Two sorted lists with the same members are the same. -/
theorem sorted_eq : ∀ (a b : List It), Sorted a → Sorted b → (∀ e, e ∈ a ↔ e ∈ b) → a = b
  | [], [], _, _, _ => rfl
  | [], y :: b, _, _, h => absurd ((h y).2 List.mem_cons_self) (by simp)
  | x :: a, [], _, _, h => absurd ((h x).1 List.mem_cons_self) (by simp)
  | x :: a, y :: b, ha, hb, h => by
    have ha' := List.pairwise_cons.1 ha
    have hb' := List.pairwise_cons.1 hb
    have hxy : x = y := by
      rcases List.mem_cons.1 ((h x).1 List.mem_cons_self) with e | hx
      · exact e
      · rcases List.mem_cons.1 ((h y).2 List.mem_cons_self) with e | hy
        · exact e.symm
        · have h1 := hb'.1 x hx
          have h2 := ha'.1 y hy
          have := kc_trans h1 h2
          exact absurd this (kc_irrefl _)
    subst hxy
    congr 1
    refine sorted_eq a b ha'.2 hb'.2 (fun e => ?_)
    have hne1 : e ∈ a → e ≠ x := fun he e' => by subst e'; exact kc_irrefl _ (ha'.1 e he)
    have hne2 : e ∈ b → e ≠ x := fun he e' => by subst e'; exact kc_irrefl _ (hb'.1 e he)
    constructor
    · intro he
      rcases List.mem_cons.1 ((h e).1 (List.mem_cons_of_mem _ he)) with e' | h'
      · exact absurd e' (hne1 he)
      · exact h'
    · intro he
      rcases List.mem_cons.1 ((h e).2 (List.mem_cons_of_mem _ he)) with e' | h'
      · exact absurd e' (hne2 he)
      · exact h'
theorem dist_perm {a b : List It} (h : a.Perm b) (hd : Dist b) : Dist a := h.symm.pairwise hd (fun {_ _} h => fun e => h e.symm)
/-- An insertion's end. -/
theorem insert_end {P1 P2 R : List It} {x : It} {ml : List It} (hp : (P1 ++ P2 ++ x :: R).Perm ml) (hd : Dist ml) (hs : Sorted (P1 ++ P2)) (h2 : ∀ e ∈ P2, kc x.key e.key < 0) (h1 : ∀ e ∈ P1, ¬ kc x.key e.key < 0) : (P1 ++ x :: P2 ++ R).Perm ml ∧ Sorted (P1 ++ x :: P2) := by
  have hpm : (P1 ++ x :: P2 ++ R).Perm (P1 ++ P2 ++ x :: R) := by
    rw [List.append_assoc, List.append_assoc]
    refine List.Perm.append_left P1 ?_
    exact List.perm_middle.symm
  refine ⟨hpm.trans hp, ?_⟩
  have hdd := dist_perm hp hd
  have hs' := List.pairwise_append.1 hs
  refine List.pairwise_append.2 ⟨hs'.1, List.pairwise_cons.2 ⟨h2, hs'.2.1⟩, fun a ha b hb => ?_⟩
  rcases List.mem_cons.1 hb with rfl | hb
  · have hne : a.key ≠ b.key := (List.pairwise_append.1 hdd).2.2 a (List.mem_append_left _ ha) b List.mem_cons_self
    have h3 := h1 a ha
    have h4 := kc_swap a.key b.key
    have h5 : kc a.key b.key ≠ 0 := fun h => hne (kc_zero h)
    omega
  · exact hs'.2.2 a ha b hb

theorem set_midd {α : Type} (P R : List α) (g x : α) {j : Nat} (h : j = P.length) : (P ++ g :: R).set j x = P ++ x :: R := by
  subst h
  rw [List.set_append_right _ _ (Nat.le_refl _)]
  simp
theorem EsAt.store {B : Nat} {w : World} {g n cap : Nat} {L : List It} (h : EsAt B w (.slice (some ⟨g, 0, none⟩) n cap) L) (hn : L.length = n) {i : Nat} (hi : i < n) (x : It) :
    EsAt B ((w.setCell ⟨g, i * 2, none⟩ (.string x.key)).setCell ⟨g, i * 2 + 1, none⟩ (.slice x.va x.vn x.vc)) (.slice (some ⟨g, 0, none⟩) n cap) (L.set i x) := by
  subst hn
  have h1 := (World.ownsRow.stored (World.ownsRow.stored h (i * 2) (.string x.key)).1 (i * 2 + 1) (.slice x.va x.vn x.vc)).1
  unfold EsAt
  rw [List.length_set, flat_set L i x hi]
  exact h1
theorem EsAt.free {B : Nat} {w : World} {g n cap : Nat} {L : List It} (h : EsAt B w (.slice (some ⟨g, 0, none⟩) n cap) L) (hn : L.length = n) (j : Nat) : w.frozen? ⟨g, j, none⟩ = false := by
  subst hn
  exact World.ownsRow.frozenAt h j

set_option maxHeartbeats 4000000 in
set_option maxRecDepth 100000 in
theorem sort_entries {B : Nat} {v : Value} {ml : List It} {w : World} (h : EsAt B w v ml) (hd : Dist ml) (hn : ml.length ≤ 1048576) :
    Calls Try.prog 15 #[v] w fun e w' => e = .returned (.tuple #[]) ∧ ∃ L, EsAt B w' v L ∧ L.Perm ml ∧ Sorted L ∧ Chg (own v) w w' := by
  rcases h.forms with ⟨rfl, rfl⟩ | ⟨g, cap, rfl, hB, hg⟩
  · go_enter Try.func15, Try.ntmps15
    go_wp2
    refine wp_loop_rounds 1 ?_
    rw [rounds_succ]
    go_wp2
    refine bodyPost_end (v := .tuple #[]) (by simp [results, Try.results15, go_sem]) rfl ⟨rfl, [], h, List.Perm.refl _, List.Pairwise.nil, Chg.refl _ _⟩
  have HH : Hid (EsAt B w (.slice (some ⟨g, 0, none⟩) ml.length cap) ml ∧ Dist ml) := ⟨h, hd⟩
  clear h hd
  generalize hnn : ml.length = n at *
  have HN : Hid (ml.length = n) := hnn
  clear hnn
  go_enter Try.func15, Try.ntmps15
  go_wp2_with fail
  go_loopg [2] n (fun gg i wr => ∃ (k : Nat) (L : List It), k ≤ n ∧ gg = n - k ∧ i = .int .i64 ((k : Nat) + 1) ∧ EsAt B wr (.slice (some ⟨g, 0, none⟩) n cap) L ∧ L.Perm ml ∧ Sorted (L.take (k + 1)) ∧ Chg [g] w wr)
  case atStart =>
    refine ⟨0, ml, by omega, by omega, rfl, HH.out.1, List.Perm.refl _, ?_, Chg.refl _ _⟩
    cases ml with
    | nil => exact List.Pairwise.nil
    | cons x ml => simp [Sorted]
  case round =>
    obtain ⟨k, L, hk, hgg, rfl, hes, hpm, hso, hch⟩ := hrel
    have hLn : L.length = n := hpm.length_eq.trans HN.out
    have HG : Hid (gk = n - k) := hgg
    have HL : Hid (EsAt B wr (.slice (some ⟨g, 0, none⟩) n cap) L ∧ L.Perm ml ∧ Sorted (L.take (k + 1)) ∧ Chg [g] w wr ∧ L.length = n) := ⟨hes, hpm, hso, hch, hLn⟩
    clear hgg hpm hso hch
    have zk : (0 : Int) ≤ (k : Int) := Int.natCast_nonneg _
    by_cases hlt : k + 1 < n
    · obtain ⟨x, hx⟩ : ∃ x, L[k + 1]? = some x := ⟨_, List.getElem?_eq_getElem (by omega)⟩
      have h1 := hes.cellK' hLn hx
      have h2 := hes.cellV' hLn hx
      have hgl : g < wr.heap.size := World.block_lt_of_cell? wr _ h1
      have HX : Hid (L[k + 1]? = some x) := hx
      obtain ⟨xk, xa, xn, xc⟩ := x
      simp only at h1 h2
      have zk2 : (k : Int) + 1 < (n : Int) := by omega
      clear hes hx hLn
      go_wp2_with fail
      have hxl : k + 1 < L.length := by rw [HL.out.2.2.2.2]; exact hlt
      have hsp : L = L.take (k + 1) ++ ⟨xk, xa, xn, xc⟩ :: L.drop (k + 2) := by
        have h9 : L[k + 1] = ⟨xk, xa, xn, xc⟩ := by
          have := HX.out
          rw [List.getElem?_eq_getElem hxl] at this
          exact Option.some.inj this
        rw [← h9, List.getElem_cons_drop, List.take_append_drop]
      have HSP : Hid (L = L.take (k + 1) ++ ⟨xk, xa, xn, xc⟩ :: L.drop (k + 2) ∧ (L.take (k + 1)).length = k + 1) := ⟨hsp, by rw [List.length_take]; omega⟩
      clear hsp hxl
      have hcA : Chg [] wr (wr.alloc (.cells #[.string xk, .slice xa xn xc] 70)) := (Chg.refl _ _).alloc _
      have hbA := heap_alloc_new wr (.cells #[.string xk, .slice xa xn xc] 70)
      have HA : Hid (EsAt B (wr.alloc (.cells #[.string xk, .slice xa xn xc] 70)) (.slice (some ⟨g, 0, none⟩) n cap) L ∧ Chg [g] w (wr.alloc (.cells #[.string xk, .slice xa xn xc] 70)) ∧ (wr.alloc (.cells #[.string xk, .slice xa xn xc] 70)).heap[wr.heap.size]? = some (.cells #[.string xk, .slice xa xn xc] 70 (0, 0))) := ⟨HL.out.1.chg hcA (fun _ _ => by simp), HL.out.2.2.2.1.trans (hcA.mono (by simp)), hbA⟩
      clear hcA hbA h1 h2
      generalize wr.alloc (.cells #[.string xk, .slice xa xn xc] 70) = wa at *
      generalize hpb : wr.heap.size = pb at *
      have HPB : Hid (wr.heap.size = pb) := hpb
      clear hpb
      go_loopg [4] (k + 1) (fun gg jj wi => ∃ (P1 P2 : List It) (gt : It), gg = P1.length ∧ jj = .int .i64 (P1.length : Nat) ∧ L.take (k + 1) = P1 ++ P2 ∧ (∀ e ∈ P2, kc xk e.key < 0) ∧ EsAt B wi (.slice (some ⟨g, 0, none⟩) n cap) (P1 ++ gt :: (P2 ++ L.drop (k + 2))) ∧ Chg [g] w wi ∧ wi.heap[pb]? = some (.cells #[.string xk, .slice xa xn xc] 70 (0, 0)))
      case atStart =>
        refine ⟨L.take (k + 1), [], ⟨xk, xa, xn, xc⟩, HSP.out.2.symm, by rw [HSP.out.2]; go_num, by simp, fun e he => (by cases he), ?_, HA.out.2.1, HA.out.2.2⟩
        rw [List.nil_append, ← HSP.out.1]
        exact HA.out.1
      case round =>
        obtain ⟨P1, P2, gt, hgg2, rfl, htk, hP2, hes, hch, hbx⟩ := hrel
        have hlen : (P1 ++ gt :: (P2 ++ L.drop (k + 2))).length = n := by
          have h5 := congrArg List.length HSP.out.1
          have h6 := congrArg List.length htk
          have h7 := HSP.out.2
          have h8 := HL.out.2.2.2.2
          simp only [List.length_append, List.length_cons] at h5 h6 ⊢
          omega
        have hPn : P1.length < n := by simp only [List.length_append, List.length_cons] at hlen; omega
        have x0 : wr.cell? ⟨pb, 0, none⟩ = some (.string xk) := (Lib.cell_of_heap hbx 0).trans rfl
        have x1 : wr.cell? ⟨pb, 1, none⟩ = some (.slice xa xn xc) := (Lib.cell_of_heap hbx 1).trans rfl
        have hgt : (P1 ++ gt :: (P2 ++ L.drop (k + 2)))[P1.length]? = some gt := by simp
        have hgpb : g < pb := hgl
        generalize hpl : P1.length = PL at *
        have HPL : Hid (P1.length = PL) := hpl
        clear hpl
        have HG2 : Hid (gk = PL) := hgg2
        clear hgg2
        have zP : (0 : Int) ≤ (PL : Int) := Int.natCast_nonneg _
        have zP2 : (PL : Int) < (n : Int) := by omega
        rcases List.eq_nil_or_concat P1 with hP | ⟨Q, y, hP⟩
        · have hP1 : ∀ e ∈ P1, ¬ kc xk e.key < 0 := fun e he => by rw [hP] at he; cases he
          have hPL0 : PL = 0 := by rw [← HPL.out, hP]; rfl
          have hfk : wr.frozen? ⟨g, PL * 2, none⟩ = false := hes.free hlen _
          have hfv : wr.frozen? ⟨g, PL * 2 + 1, none⟩ = false := hes.free hlen _
          have hk0 := hes.cellK' hlen hgt
          have hv0 := hes.cellV' hlen hgt
          have HST : Hid (∀ q, EsAt B (((wr.drewN q).setCell ⟨g, PL * 2, none⟩ (.string xk)).setCell ⟨g, PL * 2 + 1, none⟩ (.slice xa xn xc)) (.slice (some ⟨g, 0, none⟩) n cap) (P1 ++ ⟨xk, xa, xn, xc⟩ :: (P2 ++ L.drop (k + 2))) ∧ Chg [g] w (((wr.drewN q).setCell ⟨g, PL * 2, none⟩ (.string xk)).setCell ⟨g, PL * 2 + 1, none⟩ (.slice xa xn xc))) := fun q => by
            have h5 := hes.store hlen hPn ⟨xk, xa, xn, xc⟩
            rw [set_midd _ _ _ _ HPL.out.symm] at h5
            exact ⟨h5, ((hch.drewN q).setCell (.inl (by simp)) _).setCell (.inl (by simp)) _⟩
          have HIE : Hid ((P1 ++ ⟨xk, xa, xn, xc⟩ :: (P2 ++ L.drop (k + 2))).Perm ml ∧ Sorted ((P1 ++ ⟨xk, xa, xn, xc⟩ :: (P2 ++ L.drop (k + 2))).take (k + 2))) := by
            have h6 := HL.out.2.1
            rw [HSP.out.1, htk] at h6
            have h7 := HL.out.2.2.1
            rw [htk] at h7
            have h8 := insert_end (x := ⟨xk, xa, xn, xc⟩) h6 HH.out.2 h7 hP2 hP1
            have h9 : P1 ++ ⟨xk, xa, xn, xc⟩ :: (P2 ++ L.drop (k + 2)) = P1 ++ ⟨xk, xa, xn, xc⟩ :: P2 ++ L.drop (k + 2) := by simp
            have h10 : (P1 ++ (⟨xk, xa, xn, xc⟩ : It) :: P2).length = k + 2 := by
              have h5 := congrArg List.length htk
              have h4 := HSP.out.2
              simp only [List.length_append, List.length_cons] at h5 ⊢
              omega
            rw [h9]
            refine ⟨h8.1, ?_⟩
            rw [List.take_append_of_le_length (by omega), List.take_of_length_le (by omega)]
            exact h8.2
          clear hes hch hbx htk hP2 hP1 hlen hgt
          subst hPL0
          go_wp2_with fail
          go_quiet (fail)
          go_wp2_with fail
          go_roundg (n - (k + 1))
          case measure => have := HG.out; omega
          case rel => exact ⟨k + 1, _, by omega, rfl, by go_num, (HST.out _).1, HIE.out.1, HIE.out.2, (HST.out _).2⟩
        · have hPL1 : PL = Q.length + 1 := by rw [← HPL.out, hP]; simp
          have hyq : (P1 ++ gt :: (P2 ++ L.drop (k + 2)))[Q.length]? = some y := by rw [hP]; simp
          have hky := hes.cellK' hlen hyq
          have hvy := hes.cellV' hlen hyq
          have HQ : Hid (P1 = Q ++ [y]) := by
            show P1 = Q ++ [y]
            rw [hP]; simp
          have zq : ((Q.length + 1 : Nat) : Int) - 1 = (Q.length : Nat) := by omega
          have zq0 : (0 : Int) < ((Q.length + 1 : Nat) : Int) := by omega
          have zq1 : (Q.length : Int) < (n : Int) := by omega
          have zq2 : (0 : Int) ≤ (Q.length : Int) := Int.natCast_nonneg _
          have hso : Sorted (Q ++ [y] ++ P2) := by
            have := HL.out.2.2.1
            rw [htk, HQ.out] at this
            exact this
          obtain ⟨yk, ya, yn, yc⟩ := y
          simp only at hky hvy
          by_cases hlk : kc xk yk < 0
          · have hsw := kc_swap xk yk
            have hb1 : Op.bytesLess yk.toList xk.toList = false := by rw [less_kc]; simp; omega
            have hb2 : (yk.toList == xk.toList) = false := by rw [eq_kc]; simp; intro e; subst e; exact kc_irrefl _ hlk
            clear hsw
            have hfk : wr.frozen? ⟨g, PL * 2, none⟩ = false := hes.free hlen _
            have hfv : wr.frozen? ⟨g, PL * 2 + 1, none⟩ = false := hes.free hlen _
            have hk0 := hes.cellK' hlen hgt
            have hv0 := hes.cellV' hlen hgt
            have HST : Hid (∀ q, EsAt B (((wr.drewN q).setCell ⟨g, PL * 2, none⟩ (.string yk)).setCell ⟨g, PL * 2 + 1, none⟩ (.slice ya yn yc)) (.slice (some ⟨g, 0, none⟩) n cap) (Q ++ ⟨yk, ya, yn, yc⟩ :: (⟨yk, ya, yn, yc⟩ :: P2 ++ L.drop (k + 2))) ∧ Chg [g] w (((wr.drewN q).setCell ⟨g, PL * 2, none⟩ (.string yk)).setCell ⟨g, PL * 2 + 1, none⟩ (.slice ya yn yc)) ∧ (((wr.drewN q).setCell ⟨g, PL * 2, none⟩ (.string yk)).setCell ⟨g, PL * 2 + 1, none⟩ (.slice ya yn yc)).heap[pb]? = some (.cells #[.string xk, .slice xa xn xc] 70 (0, 0))) := fun q => by
              have h5 := hes.store hlen hPn ⟨yk, ya, yn, yc⟩
              rw [set_midd _ _ _ _ HPL.out.symm, HQ.out] at h5
              have hcs : Chg [g] wr (((wr.drewN q).setCell ⟨g, PL * 2, none⟩ (.string yk)).setCell ⟨g, PL * 2 + 1, none⟩ (.slice ya yn yc)) := (((Chg.refl _ _).drewN q).setCell (.inl (by simp)) _).setCell (.inl (by simp)) _
              have h6 : EsAt B (((wr.drewN q).setCell ⟨g, PL * 2, none⟩ (.string yk)).setCell ⟨g, PL * 2 + 1, none⟩ (.slice ya yn yc)) (.slice (some ⟨g, 0, none⟩) n cap) (Q ++ [⟨yk, ya, yn, yc⟩] ++ ⟨yk, ya, yn, yc⟩ :: (P2 ++ L.drop (k + 2))) := h5
              refine ⟨by rw [List.append_assoc] at h6; exact h6, hch.trans hcs, hcs.heap hbx (by simp; omega)⟩
            have HP2 : Hid (L.take (k + 1) = Q ++ (⟨yk, ya, yn, yc⟩ :: P2) ∧ ∀ e ∈ (⟨yk, ya, yn, yc⟩ : It) :: P2, kc xk e.key < 0) := by
              refine ⟨by rw [htk, HQ.out]; simp, fun e he => ?_⟩
              rcases List.mem_cons.1 he with rfl | he
              · exact hlk
              · exact hP2 e he
            clear hes hch hbx htk hP2 hlen hgt hyq hso hP
            subst hPL1
            go_wp2_with fail
            go_quiet (fail)
            go_wp2_with fail
            go_roundg Q.length
            case measure => have := HG2.out; omega
            case rel => exact ⟨Q, _, _, rfl, by go_num, HP2.out.1, HP2.out.2, (HST.out _).1, (HST.out _).2.1, (HST.out _).2.2⟩
          have hb1 : Op.bytesLess yk.toList xk.toList = true := by
            rw [less_kc]
            have hsw := kc_swap xk yk
            have hne : yk ≠ xk := by
              have h6 := HL.out.2.1
              rw [HSP.out.1, htk] at h6
              have h7 := dist_perm h6 HH.out.2
              exact (List.pairwise_append.1 h7).2.2 ⟨yk, ya, yn, yc⟩ (List.mem_append_left _ (by rw [HQ.out]; simp)) ⟨xk, xa, xn, xc⟩ List.mem_cons_self
            have h8 : kc yk xk ≠ 0 := fun h => hne (kc_zero h)
            simp only [decide_eq_true_eq]
            omega
          have hP1 : ∀ e ∈ P1, ¬ kc xk e.key < 0 := fun e he h9 => by
            rw [HQ.out] at he
            rcases List.mem_append.1 he with he | he
            · have h10 := (List.pairwise_append.1 (List.pairwise_append.1 hso).1).2.2 e he _ List.mem_cons_self
              exact hlk (kc_trans h9 h10)
            · have : e = ⟨yk, ya, yn, yc⟩ := by simpa using he
              subst this
              exact hlk h9
          have hfk : wr.frozen? ⟨g, PL * 2, none⟩ = false := hes.free hlen _
          have hfv : wr.frozen? ⟨g, PL * 2 + 1, none⟩ = false := hes.free hlen _
          have hk0 := hes.cellK' hlen hgt
          have hv0 := hes.cellV' hlen hgt
          have HST : Hid (∀ q, EsAt B (((wr.drewN q).setCell ⟨g, PL * 2, none⟩ (.string xk)).setCell ⟨g, PL * 2 + 1, none⟩ (.slice xa xn xc)) (.slice (some ⟨g, 0, none⟩) n cap) (P1 ++ ⟨xk, xa, xn, xc⟩ :: (P2 ++ L.drop (k + 2))) ∧ Chg [g] w (((wr.drewN q).setCell ⟨g, PL * 2, none⟩ (.string xk)).setCell ⟨g, PL * 2 + 1, none⟩ (.slice xa xn xc))) := fun q => by
            have h5 := hes.store hlen hPn ⟨xk, xa, xn, xc⟩
            rw [set_midd _ _ _ _ HPL.out.symm] at h5
            exact ⟨h5, ((hch.drewN q).setCell (.inl (by simp)) _).setCell (.inl (by simp)) _⟩
          have HIE : Hid ((P1 ++ ⟨xk, xa, xn, xc⟩ :: (P2 ++ L.drop (k + 2))).Perm ml ∧ Sorted ((P1 ++ ⟨xk, xa, xn, xc⟩ :: (P2 ++ L.drop (k + 2))).take (k + 2))) := by
            have h6 := HL.out.2.1
            rw [HSP.out.1, htk] at h6
            have h7 := HL.out.2.2.1
            rw [htk] at h7
            have h8 := insert_end (x := ⟨xk, xa, xn, xc⟩) h6 HH.out.2 h7 hP2 hP1
            have h9 : P1 ++ ⟨xk, xa, xn, xc⟩ :: (P2 ++ L.drop (k + 2)) = P1 ++ ⟨xk, xa, xn, xc⟩ :: P2 ++ L.drop (k + 2) := by simp
            have h10 : (P1 ++ (⟨xk, xa, xn, xc⟩ : It) :: P2).length = k + 2 := by
              have h5 := congrArg List.length htk
              have h4 := HSP.out.2
              simp only [List.length_append, List.length_cons] at h5 ⊢
              omega
            rw [h9]
            refine ⟨h8.1, ?_⟩
            rw [List.take_append_of_le_length (by omega), List.take_of_length_le (by omega)]
            exact h8.2
          clear hes hch hbx htk hP2 hP1 hlen hgt
          clear hyq hso hP
          subst hPL1
          go_wp2_with fail
          go_quiet (fail)
          go_wp2_with fail
          go_roundg (n - (k + 1))
          case measure => have := HG.out; omega
          case rel => exact ⟨k + 1, _, by omega, rfl, by go_num, (HST.out _).1, HIE.out.1, HIE.out.2, (HST.out _).2⟩
    · have HF : Hid (Sorted L) := by
        have := HL.out.2.2.1
        rw [List.take_of_length_le (by rw [HL.out.2.2.2.2]; omega)] at this
        exact this
      have zk2 : ¬ (k : Int) + 1 < (n : Int) := by omega
      clear hes hLn
      go_wp2_with fail
      refine bodyPost_end (v := .tuple #[]) (by simp [results, Try.results15, go_sem]) rfl ⟨rfl, L, HL.out.1, HL.out.2.1, HF.out, HL.out.2.2.2.1⟩
end Go.Proofs.Qxb6603401a
