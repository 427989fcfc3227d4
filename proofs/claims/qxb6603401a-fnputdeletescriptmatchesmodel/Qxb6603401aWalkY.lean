import Derived.Test.Qxb6603401aVisitY
import Derived.Test.Qxb6603401aWalkT
namespace Go.Proofs.Qxb6603401a
open Go Go.RowKit Go.Deep
set_option linter.unusedSimpArgs false
set_option linter.unusedVariables false

theorem node_not_p {w : World} {b p : Nat} {nd : Nd} {ld : Int} {st : Option ByteArray} {cnt : Nat} {c : Bool} {o : Value} (h : NodeAt w b nd) (hp : w.heap[p]? = some (wsObj ld st cnt c o)) : b ≠ p ∧ b + 1 ≠ p := by
  have key : ∀ x ∈ nd.blocks b, x ≠ p := fun x hx e => by
    subst e
    obtain ⟨c', T, h1, h2⟩ := h.types x hx
    rw [hp] at h1
    unfold wsObj at h1
    simp only [Option.some.injEq, Obj.cells.injEq] at h1
    obtain ⟨_, rfl, _⟩ := h1
    rcases h2 with ⟨_, e, _⟩ | ⟨_, e⟩ | ⟨_, e⟩ <;> exact absurd e (by decide)
  have hm : b ∈ nd.blocks b ∧ b + 1 ∈ nd.blocks b := by
    unfold Nd.blocks
    split <;> simp
  exact ⟨key b hm.1, key _ hm.2⟩

set_option maxHeartbeats 4000000 in
set_option maxRecDepth 100000 in
theorem walkY_leaf (b : Nat) (its : List It) (m : Nat) (root : Bool) (dep B : Nat) (σ : Store) (w : World) (p : Nat) (ld : Int) (st : Option ByteArray) (cnt : Nat) (out : Value) (E : Nat) (ml : List It) (he : Env noKeep B σ w) (hI : (leaf b its).In σ) (hok : (leaf b its).Ok m) (hr : root = false → 15 ≤ m) (hdep : dep ≤ 64)
    (hld : ld < 0 ∨ ld = dep) (hs : Sorted its) (hst : ∀ l, st = some l → ∀ e ∈ its, kc l e.key < 0) (hp : w.heap[p]? = some (wsObj ld st cnt true out)) (ho : EsAt E w out ml) (hE : E ≤ w.heap.size) (hml : ml.length + its.length ≤ 1048576) (hc : cnt + its.length < 4611686018427387904) :
    Calls Try.prog 47 #[ptr b, .int .i64 (dep : Nat), .bool root, .pointer (some ⟨p, 0, none⟩)] w fun e w' => e = .returned (.tuple #[]) ∧ OutIs E p w out w' dep (lastK st its) (cnt + its.length) (ml ++ its) := by
  have hN := he.rep b _ hI
  have h1 : w.cell? ⟨b + 1, 1, none⟩ = some (.slice (some ⟨b, 0, none⟩) its.length 31) := hN.hdr
  have h2 : w.cell? ⟨b + 1, 2, none⟩ = some (.slice none 0 0) := hN.khdr
  have hl31 : its.length ≤ 31 := hok.2
  have hlm : m ≤ its.length := hok.1
  have A40 := acc40 b its.length w h1
  have A36 := acc36 b none 0 0 w h2
  simp only [Option.isNone] at A36
  have hz := binNil30
  have z1 : (0 : Int) ≤ (dep : Int) := Int.natCast_nonneg _
  have z2 : (dep : Int) ≤ 64 := by omega
  have z3 : (its.length : Int) ≤ 31 := by omega
  have z4 : root = false → (15 : Int) ≤ (its.length : Int) := fun h => by have := hr h; omega
  have c1 : w.cell? ⟨p, 1, none⟩ = some (.int .i64 ld) := (Lib.cell_of_heap hp 1).trans rfl
  have f1 : w.frozen? ⟨p, 1, none⟩ = false := by simp [World.frozen?, hp, wsObj]
  have hpl : p < w.heap.size := World.block_lt_of_cell? w _ c1
  have hpo : p ∉ own out := fun hm => by
    obtain ⟨_, c, h1⟩ := ho.typed hm
    rw [hp] at h1
    simp [wsObj] at h1
  have HO : Hid (EsAt E w out ml ∧ E ≤ w.heap.size ∧ ml.length + its.length ≤ 1048576 ∧ p ∉ own out) := ⟨ho, hE, hml, hpo⟩
  have HP : Hid (w.heap[p]? = some (wsObj ld st cnt true out) ∧ Env noKeep B σ w ∧ (leaf b its).In σ ∧ Sorted its ∧ (∀ l, st = some l → ∀ e ∈ its, kc l e.key < 0) ∧ cnt + its.length < 4611686018427387904) := ⟨hp, he, hI, hs, hst, hc⟩
  clear hN he hI hok hs hst hp hr hc h1 h2 ho hml hpo hE
  unfold ptr at *
  cases root <;> rcases hld with hld | hld
  · have z5 := z4 rfl
    clear z4
    go_enter Try.func47, Try.ntmps47
    go_wp2_with fail
    refine A40.mono ?_
    rintro e w1 ⟨rfl, rfl⟩
    go_wp2_with fail
    refine A36.mono ?_
    rintro e w1 ⟨rfl, rfl⟩
    go_wp2_with fail
    have HS : Hid (OutIs E p w out (w.setCell ⟨p, 1, none⟩ (.int .i64 (dep : Nat))) dep (lastK st (its.take 0)) (cnt + 0) (ml ++ its.take 0)) := by
      have hcs : Chg [p] w (w.setCell ⟨p, 1, none⟩ (.int .i64 (dep : Nat))) := (Chg.refl _ _).setCell (.inl (by simp)) _
      refine ⟨out, ?_, ?_, ⟨hcs.mono (fun x hx => by have := List.mem_singleton.1 hx; subst this; exact List.mem_cons_self), fun g hg => .inl hg⟩⟩
      · rw [setCell_heap HP.out.1]
        rfl
      · rw [List.take_zero, List.append_nil]
        exact HO.out.1.chg hcs (fun g hg hm => HO.out.2.2.2 (by have := List.mem_singleton.1 hm; subst this; exact mem_own.2 hg))
    generalize w.setCell ⟨p, 1, none⟩ (.int .i64 (dep : Nat)) = w0 at *
    go_loopg [9] (its.length + 1) (fun g x wr => ∃ j : Nat, x = .int .i64 j ∧ j ≤ its.length ∧ its.length - j < g ∧ OutIs E p w out wr dep (lastK st (its.take j)) (cnt + j) (ml ++ its.take j))
    case atStart => exact ⟨0, rfl, Nat.zero_le _, by omega, HS.out⟩
    case round =>
      obtain ⟨j, rfl, hj, hg, hO⟩ := hrel
      have HOJ : Hid (OutIs E p w out wr dep (lastK st (its.take j)) (cnt + j) (ml ++ its.take j)) := hO
      obtain ⟨o1, hpj, ho1, hcj⟩ := hO
      have zj : (0 : Int) ≤ (j : Int) := Int.natCast_nonneg _
      by_cases hlt : j < its.length
      · have zj2 : (j : Int) < (its.length : Int) := by omega
        obtain ⟨hp0, he, hI, hs, hst, hc⟩ := HP.out
        have hej := he.chgC hp0 HO.out.1 hcj.chg
        have hNj := hej.rep b _ hI
        have hat := (hNj.items.at hlt).1
        have hsp : its = its.take j ++ its[j] :: its.drop (j + 1) := by
          rw [List.getElem_cons_drop, List.take_append_drop]
        have hlst : ∀ l, lastK st (its.take j) = some l → kc l its[j].key < 0 := fun l hl => lastK_lt (E := its[j] :: its.drop (j + 1)) (by rw [← hsp]; exact hs) (by rw [← hsp]; exact hst) l hl _ List.mem_cons_self
        have hnp := node_not_p hNj hpj
        have HV := visit_yes p b j its.length its[j] wr dep _ (cnt + j) o1 E (ml ++ its.take j) hpj ho1 (Nat.le_trans HO.out.2.1 hcj.chg.size) (by have := HO.out.2.2.1; rw [List.length_append, List.length_take]; omega) hlst (by omega) hNj.hdr hlt hat (hNj.items.at hlt).2 hnp.1 hnp.2
        have htk : its.take (j + 1) = its.take j ++ [its[j]] := by rw [List.take_succ_eq_append_getElem hlt]
        have HK : Hid (lastK st (its.take (j + 1)) = some its[j].key) := by
          show _ = _
          rw [htk, lastK_snoc]
        have HTK : Hid (ml ++ its.take j ++ [its[j]] = ml ++ its.take (j + 1)) := by
          show _ = _
          rw [htk, List.append_assoc]
        have HC1 : Hid (CS p out w o1 wr) := hcj
        clear hp0 he hI hs hst hc hej hNj hat hsp hlst htk hnp hpj ho1 hcj
        unfold ptr at HV
        go_wp2_with fail
        refine HV.mono ?_
        rintro e w6 ⟨rfl, o6, hp6, ho6, hc6⟩
        go_wp2_with fail
        go_roundg (gk - 1)
        case measure => omega
        case rel => exact ⟨j + 1, by go_num, by omega, by omega, o6, by rw [HK.out]; exact hp6, by rw [← HTK.out]; exact ho6, HC1.out.trans hc6⟩
      · obtain rfl : j = its.length := by omega
        go_wp2_with fail
        refine bodyPost_ret (v := .tuple #[]) (by simp [results, Try.results47, go_sem]) rfl ⟨rfl, ?_⟩
        have := HOJ.out
        rw [List.take_length] at this
        exact this
  · subst hld
    have z5 := z4 rfl
    clear z4
    go_enter Try.func47, Try.ntmps47
    go_wp2_with fail
    refine A40.mono ?_
    rintro e w1 ⟨rfl, rfl⟩
    go_wp2_with fail
    refine A36.mono ?_
    rintro e w1 ⟨rfl, rfl⟩
    go_wp2_with fail
    have HS : Hid (OutIs E p w out w dep (lastK st (its.take 0)) (cnt + 0) (ml ++ its.take 0)) := ⟨out, HP.out.1, by rw [List.take_zero, List.append_nil]; exact HO.out.1, CS.refl _ _ _⟩
    go_loopg [9] (its.length + 1) (fun g x wr => ∃ j : Nat, x = .int .i64 j ∧ j ≤ its.length ∧ its.length - j < g ∧ OutIs E p w out wr dep (lastK st (its.take j)) (cnt + j) (ml ++ its.take j))
    case atStart => exact ⟨0, rfl, Nat.zero_le _, by omega, HS.out⟩
    case round =>
      obtain ⟨j, rfl, hj, hg, hO⟩ := hrel
      have HOJ : Hid (OutIs E p w out wr dep (lastK st (its.take j)) (cnt + j) (ml ++ its.take j)) := hO
      obtain ⟨o1, hpj, ho1, hcj⟩ := hO
      have zj : (0 : Int) ≤ (j : Int) := Int.natCast_nonneg _
      by_cases hlt : j < its.length
      · have zj2 : (j : Int) < (its.length : Int) := by omega
        obtain ⟨hp0, he, hI, hs, hst, hc⟩ := HP.out
        have hej := he.chgC hp0 HO.out.1 hcj.chg
        have hNj := hej.rep b _ hI
        have hat := (hNj.items.at hlt).1
        have hsp : its = its.take j ++ its[j] :: its.drop (j + 1) := by
          rw [List.getElem_cons_drop, List.take_append_drop]
        have hlst : ∀ l, lastK st (its.take j) = some l → kc l its[j].key < 0 := fun l hl => lastK_lt (E := its[j] :: its.drop (j + 1)) (by rw [← hsp]; exact hs) (by rw [← hsp]; exact hst) l hl _ List.mem_cons_self
        have hnp := node_not_p hNj hpj
        have HV := visit_yes p b j its.length its[j] wr dep _ (cnt + j) o1 E (ml ++ its.take j) hpj ho1 (Nat.le_trans HO.out.2.1 hcj.chg.size) (by have := HO.out.2.2.1; rw [List.length_append, List.length_take]; omega) hlst (by omega) hNj.hdr hlt hat (hNj.items.at hlt).2 hnp.1 hnp.2
        have htk : its.take (j + 1) = its.take j ++ [its[j]] := by rw [List.take_succ_eq_append_getElem hlt]
        have HK : Hid (lastK st (its.take (j + 1)) = some its[j].key) := by
          show _ = _
          rw [htk, lastK_snoc]
        have HTK : Hid (ml ++ its.take j ++ [its[j]] = ml ++ its.take (j + 1)) := by
          show _ = _
          rw [htk, List.append_assoc]
        have HC1 : Hid (CS p out w o1 wr) := hcj
        clear hp0 he hI hs hst hc hej hNj hat hsp hlst htk hnp hpj ho1 hcj
        unfold ptr at HV
        go_wp2_with fail
        refine HV.mono ?_
        rintro e w6 ⟨rfl, o6, hp6, ho6, hc6⟩
        go_wp2_with fail
        go_roundg (gk - 1)
        case measure => omega
        case rel => exact ⟨j + 1, by go_num, by omega, by omega, o6, by rw [HK.out]; exact hp6, by rw [← HTK.out]; exact ho6, HC1.out.trans hc6⟩
      · obtain rfl : j = its.length := by omega
        go_wp2_with fail
        refine bodyPost_ret (v := .tuple #[]) (by simp [results, Try.results47, go_sem]) rfl ⟨rfl, ?_⟩
        have := HOJ.out
        rw [List.take_length] at this
        exact this
  · clear z4
    go_enter Try.func47, Try.ntmps47
    go_wp2_with fail
    refine A40.mono ?_
    rintro e w1 ⟨rfl, rfl⟩
    go_wp2_with fail
    refine A36.mono ?_
    rintro e w1 ⟨rfl, rfl⟩
    go_wp2_with fail
    have HS : Hid (OutIs E p w out (w.setCell ⟨p, 1, none⟩ (.int .i64 (dep : Nat))) dep (lastK st (its.take 0)) (cnt + 0) (ml ++ its.take 0)) := by
      have hcs : Chg [p] w (w.setCell ⟨p, 1, none⟩ (.int .i64 (dep : Nat))) := (Chg.refl _ _).setCell (.inl (by simp)) _
      refine ⟨out, ?_, ?_, ⟨hcs.mono (fun x hx => by have := List.mem_singleton.1 hx; subst this; exact List.mem_cons_self), fun g hg => .inl hg⟩⟩
      · rw [setCell_heap HP.out.1]
        rfl
      · rw [List.take_zero, List.append_nil]
        exact HO.out.1.chg hcs (fun g hg hm => HO.out.2.2.2 (by have := List.mem_singleton.1 hm; subst this; exact mem_own.2 hg))
    generalize w.setCell ⟨p, 1, none⟩ (.int .i64 (dep : Nat)) = w0 at *
    go_loopg [9] (its.length + 1) (fun g x wr => ∃ j : Nat, x = .int .i64 j ∧ j ≤ its.length ∧ its.length - j < g ∧ OutIs E p w out wr dep (lastK st (its.take j)) (cnt + j) (ml ++ its.take j))
    case atStart => exact ⟨0, rfl, Nat.zero_le _, by omega, HS.out⟩
    case round =>
      obtain ⟨j, rfl, hj, hg, hO⟩ := hrel
      have HOJ : Hid (OutIs E p w out wr dep (lastK st (its.take j)) (cnt + j) (ml ++ its.take j)) := hO
      obtain ⟨o1, hpj, ho1, hcj⟩ := hO
      have zj : (0 : Int) ≤ (j : Int) := Int.natCast_nonneg _
      by_cases hlt : j < its.length
      · have zj2 : (j : Int) < (its.length : Int) := by omega
        obtain ⟨hp0, he, hI, hs, hst, hc⟩ := HP.out
        have hej := he.chgC hp0 HO.out.1 hcj.chg
        have hNj := hej.rep b _ hI
        have hat := (hNj.items.at hlt).1
        have hsp : its = its.take j ++ its[j] :: its.drop (j + 1) := by
          rw [List.getElem_cons_drop, List.take_append_drop]
        have hlst : ∀ l, lastK st (its.take j) = some l → kc l its[j].key < 0 := fun l hl => lastK_lt (E := its[j] :: its.drop (j + 1)) (by rw [← hsp]; exact hs) (by rw [← hsp]; exact hst) l hl _ List.mem_cons_self
        have hnp := node_not_p hNj hpj
        have HV := visit_yes p b j its.length its[j] wr dep _ (cnt + j) o1 E (ml ++ its.take j) hpj ho1 (Nat.le_trans HO.out.2.1 hcj.chg.size) (by have := HO.out.2.2.1; rw [List.length_append, List.length_take]; omega) hlst (by omega) hNj.hdr hlt hat (hNj.items.at hlt).2 hnp.1 hnp.2
        have htk : its.take (j + 1) = its.take j ++ [its[j]] := by rw [List.take_succ_eq_append_getElem hlt]
        have HK : Hid (lastK st (its.take (j + 1)) = some its[j].key) := by
          show _ = _
          rw [htk, lastK_snoc]
        have HTK : Hid (ml ++ its.take j ++ [its[j]] = ml ++ its.take (j + 1)) := by
          show _ = _
          rw [htk, List.append_assoc]
        have HC1 : Hid (CS p out w o1 wr) := hcj
        clear hp0 he hI hs hst hc hej hNj hat hsp hlst htk hnp hpj ho1 hcj
        unfold ptr at HV
        go_wp2_with fail
        refine HV.mono ?_
        rintro e w6 ⟨rfl, o6, hp6, ho6, hc6⟩
        go_wp2_with fail
        go_roundg (gk - 1)
        case measure => omega
        case rel => exact ⟨j + 1, by go_num, by omega, by omega, o6, by rw [HK.out]; exact hp6, by rw [← HTK.out]; exact ho6, HC1.out.trans hc6⟩
      · obtain rfl : j = its.length := by omega
        go_wp2_with fail
        refine bodyPost_ret (v := .tuple #[]) (by simp [results, Try.results47, go_sem]) rfl ⟨rfl, ?_⟩
        have := HOJ.out
        rw [List.take_length] at this
        exact this
  · subst hld
    clear z4
    go_enter Try.func47, Try.ntmps47
    go_wp2_with fail
    refine A40.mono ?_
    rintro e w1 ⟨rfl, rfl⟩
    go_wp2_with fail
    refine A36.mono ?_
    rintro e w1 ⟨rfl, rfl⟩
    go_wp2_with fail
    have HS : Hid (OutIs E p w out w dep (lastK st (its.take 0)) (cnt + 0) (ml ++ its.take 0)) := ⟨out, HP.out.1, by rw [List.take_zero, List.append_nil]; exact HO.out.1, CS.refl _ _ _⟩
    go_loopg [9] (its.length + 1) (fun g x wr => ∃ j : Nat, x = .int .i64 j ∧ j ≤ its.length ∧ its.length - j < g ∧ OutIs E p w out wr dep (lastK st (its.take j)) (cnt + j) (ml ++ its.take j))
    case atStart => exact ⟨0, rfl, Nat.zero_le _, by omega, HS.out⟩
    case round =>
      obtain ⟨j, rfl, hj, hg, hO⟩ := hrel
      have HOJ : Hid (OutIs E p w out wr dep (lastK st (its.take j)) (cnt + j) (ml ++ its.take j)) := hO
      obtain ⟨o1, hpj, ho1, hcj⟩ := hO
      have zj : (0 : Int) ≤ (j : Int) := Int.natCast_nonneg _
      by_cases hlt : j < its.length
      · have zj2 : (j : Int) < (its.length : Int) := by omega
        obtain ⟨hp0, he, hI, hs, hst, hc⟩ := HP.out
        have hej := he.chgC hp0 HO.out.1 hcj.chg
        have hNj := hej.rep b _ hI
        have hat := (hNj.items.at hlt).1
        have hsp : its = its.take j ++ its[j] :: its.drop (j + 1) := by
          rw [List.getElem_cons_drop, List.take_append_drop]
        have hlst : ∀ l, lastK st (its.take j) = some l → kc l its[j].key < 0 := fun l hl => lastK_lt (E := its[j] :: its.drop (j + 1)) (by rw [← hsp]; exact hs) (by rw [← hsp]; exact hst) l hl _ List.mem_cons_self
        have hnp := node_not_p hNj hpj
        have HV := visit_yes p b j its.length its[j] wr dep _ (cnt + j) o1 E (ml ++ its.take j) hpj ho1 (Nat.le_trans HO.out.2.1 hcj.chg.size) (by have := HO.out.2.2.1; rw [List.length_append, List.length_take]; omega) hlst (by omega) hNj.hdr hlt hat (hNj.items.at hlt).2 hnp.1 hnp.2
        have htk : its.take (j + 1) = its.take j ++ [its[j]] := by rw [List.take_succ_eq_append_getElem hlt]
        have HK : Hid (lastK st (its.take (j + 1)) = some its[j].key) := by
          show _ = _
          rw [htk, lastK_snoc]
        have HTK : Hid (ml ++ its.take j ++ [its[j]] = ml ++ its.take (j + 1)) := by
          show _ = _
          rw [htk, List.append_assoc]
        have HC1 : Hid (CS p out w o1 wr) := hcj
        clear hp0 he hI hs hst hc hej hNj hat hsp hlst htk hnp hpj ho1 hcj
        unfold ptr at HV
        go_wp2_with fail
        refine HV.mono ?_
        rintro e w6 ⟨rfl, o6, hp6, ho6, hc6⟩
        go_wp2_with fail
        go_roundg (gk - 1)
        case measure => omega
        case rel => exact ⟨j + 1, by go_num, by omega, by omega, o6, by rw [HK.out]; exact hp6, by rw [← HTK.out]; exact ho6, HC1.out.trans hc6⟩
      · obtain rfl : j = its.length := by omega
        go_wp2_with fail
        refine bodyPost_ret (v := .tuple #[]) (by simp [results, Try.results47, go_sem]) rfl ⟨rfl, ?_⟩
        have := HOJ.out
        rw [List.take_length] at this
        exact this

def WalkSpecY (d : Nat) : Prop := ∀ (t : Tr d) (m : Nat) (root : Bool) (dep B : Nat) (σ : Store) (w : World) (p : Nat) (ld : Int) (st : Option ByteArray) (cnt : Nat) (out : Value) (E : Nat) (ml : List It), Env noKeep B σ w → t.In σ → t.Ok m → (root = false → 15 ≤ m) → dep + d ≤ 64 →
    (ld < 0 ∨ ld = ((dep + d : Nat) : Int)) → Sorted t.ents → (∀ l, st = some l → ∀ e ∈ t.ents, kc l e.key < 0) → w.heap[p]? = some (wsObj ld st cnt true out) → EsAt E w out ml → E ≤ w.heap.size → ml.length + t.ents.length ≤ 1048576 → cnt + t.ents.length < 4611686018427387904 →
    Calls Try.prog 47 #[ptr t.root, .int .i64 (dep : Nat), .bool root, .pointer (some ⟨p, 0, none⟩)] w fun e w' => e = .returned (.tuple #[]) ∧ OutIs E p w out w' ((dep + d : Nat) : Int) (lastK st t.ents) (cnt + t.ents.length) (ml ++ t.ents)

theorem walkY_zero : WalkSpecY 0 := by
  intro t m root dep B σ w p ld st cnt out E ml he hI hok hr hdep hld hs hst hp ho hE hml hc
  obtain ⟨b, its⟩ := t
  exact walkY_leaf b its m root dep B σ w p ld st cnt out E ml he hI hok hr hdep hld hs hst hp ho hE hml hc

set_option maxHeartbeats 8000000 in
set_option maxRecDepth 100000 in
theorem walkY_succ (d : Nat) (IH : WalkSpecY d) : WalkSpecY (d + 1) := by
  intro t m root dep B σ w p ld st cnt out E ml he hI hok hr hdep hld hs hst hp ho hE hml hc
  obtain ⟨b, its, ks⟩ := t
  have hkl : ks.length = its.length + 1 := hok.2.2.1
  have hN := he.rep b _ hI.1
  have h1 : w.cell? ⟨b + 1, 1, none⟩ = some (.slice (some ⟨b, 0, none⟩) its.length 31) := hN.hdr
  have h2 : w.cell? ⟨b + 1, 2, none⟩ = some (.slice (some ⟨b + 2, 0, none⟩) (its.length + 1) 32) := by
    have : w.cell? ⟨b + 1, 2, none⟩ = some (.slice (some ⟨b + 2, 0, none⟩) (ks.map Tr.root).length 32) := hN.khdr
    rw [List.length_map, hkl] at this
    exact this
  have hl31 : its.length ≤ 31 := hok.2.1
  have hlm : m ≤ its.length := hok.1
  have A40 := acc40 b its.length w h1
  have A36 := acc36 b _ _ _ w h2
  have A37 := acc37 b _ _ _ w h2
  simp only [Option.isNone] at A36
  have hz := binNil30
  have z1 : (0 : Int) ≤ (dep : Int) := Int.natCast_nonneg _
  have z2 : (dep : Int) ≤ 64 := by omega
  have z3 : (its.length : Int) ≤ 31 := by omega
  have z4 : root = false → (15 : Int) ≤ (its.length : Int) := fun h => by have := hr h; omega
  have HO : Hid (EsAt E w out ml ∧ E ≤ w.heap.size ∧ ml.length + (node b its ks).ents.length ≤ 1048576) := ⟨ho, hE, hml⟩
  have HP : Hid (w.heap[p]? = some (wsObj ld st cnt true out) ∧ (ld < 0 ∨ ld = ((dep + (d + 1) : Nat) : Int)) ∧ Env noKeep B σ w ∧ (node b its ks).In σ ∧ (node b its ks).Ok m ∧ Sorted (node b its ks).ents ∧ (∀ l, st = some l → ∀ e ∈ (node b its ks).ents, kc l e.key < 0) ∧ cnt + (node b its ks).ents.length < 4611686018427387904) := ⟨hp, hld, he, hI, hok, hs, hst, hc⟩
  clear hN he hI hok hs hst hp hr hc h1 h2 hld ho hE hml
  show Calls Try.prog 47 #[ptr b, .int .i64 (dep : Nat), .bool root, .pointer (some ⟨p, 0, none⟩)] w _
  unfold ptr at A40 A36 A37 ⊢
  cases root
  · have z5 := z4 rfl
    clear z4
    go_enter Try.func47, Try.ntmps47
    go_wp2_with fail
    refine A40.mono ?_
    rintro e w1 ⟨rfl, rfl⟩
    go_wp2_with fail
    refine A36.mono ?_
    rintro e w1 ⟨rfl, rfl⟩
    go_wp2_with fail
    refine A37.mono ?_
    rintro e w1 ⟨rfl, rfl⟩
    go_wp2_with fail
    go_loopg [10] (its.length + 1) (fun g x wr => ∃ (j : Nat) (ld' : Int), x = .int .i64 j ∧ j ≤ its.length ∧ its.length - j < g ∧ (ld' < 0 ∨ ld' = ((dep + (d + 1) : Nat) : Int)) ∧ OutIs E p w out wr ld' (lastK st (pre (its.take j) ((ks.take j).map Tr.ents))) (cnt + (pre (its.take j) ((ks.take j).map Tr.ents)).length) (ml ++ pre (its.take j) ((ks.take j).map Tr.ents)))
    case atStart => exact ⟨0, ld, rfl, Nat.zero_le _, by omega, HP.out.2.1, out, by simpa [pre, lastK] using HP.out.1, by simpa [pre] using HO.out.1, CS.refl _ _ _⟩
    case round =>
      obtain ⟨j, ld', rfl, hj, hg, hld', o1, hpj, ho1, hcj⟩ := hrel
      have zj : (0 : Int) ≤ (j : Int) := Int.natCast_nonneg _
      have hkj : j < ks.length := by omega
      obtain ⟨hp0, hld0, he, hI, hok, hs, hst, hc⟩ := HP.out
      have hej := he.chgC hp0 HO.out.1 hcj.chg
      have hNj := hej.rep b _ hI.1
      have h2j : wr.cell? ⟨b + 1, 2, none⟩ = some (.slice (some ⟨b + 2, 0, none⟩) (its.length + 1) 32) := by
        have : wr.cell? ⟨b + 1, 2, none⟩ = some (.slice (some ⟨b + 2, 0, none⟩) (ks.map Tr.root).length 32) := hNj.khdr
        rw [List.length_map, hkl] at this
        exact this
      have hkid : wr.cell? ⟨b + 2, j, none⟩ = some (ptr ks[j].root) := by
        have hk' : j < (ks.map Tr.root).length := by simpa using hkj
        have : wr.cell? ⟨b + 2, j, none⟩ = some (ptr (ks.map Tr.root)[j]) := hNj.kid rfl hk'
        rw [List.getElem_map] at this
        exact this
      have A38 := acc38 b j (its.length + 1) _ wr h2j (by omega) hkid
      have hksp : ks = ks.take j ++ ks[j] :: ks.drop (j + 1) := by rw [List.getElem_cons_drop, List.take_append_drop]
      have hent : (node b its ks).ents = pre (its.take j) ((ks.take j).map Tr.ents) ++ ks[j].ents ++ post (its.drop j) ((ks.drop (j + 1)).map Tr.ents) := by
        have := ents_at b (its.take j) (its.drop j) (ks.take j) (ks.drop (j + 1)) ks[j] (by rw [List.length_take, List.length_take]; omega) (by rw [List.length_drop, List.length_drop]; omega)
        rw [List.take_append_drop, ← hksp] at this
        exact this
      have hs' := hs
      have hst' := hst
      rw [hent] at hs' hst'
      have hcl : cnt + (pre (its.take j) ((ks.take j).map Tr.ents)).length + ks[j].ents.length < 4611686018427387904 := by
        rw [hent] at hc
        simp only [List.length_append] at hc
        omega
      have hmlj : (ml ++ pre (its.take j) ((ks.take j).map Tr.ents)).length + ks[j].ents.length ≤ 1048576 := by
        have := HO.out.2.2
        rw [hent] at this
        simp only [List.length_append] at this ⊢
        omega
      have HC := IH ks[j] 15 false (dep + 1) B σ wr p ld' _ _ o1 E _ hej (hI.2 _ (List.getElem_mem hkj)) (hok.2.2.2 _ (List.getElem_mem hkj)) (fun _ => Nat.le_refl _) (by omega) (by rcases hld' with h | h; exact .inl h; exact .inr (by rw [h]; congr 1; omega)) hs'.left.right (lastK_lt hs'.left (fun l hl e he => hst' l hl e (List.mem_append.2 (.inl he)))) hpj ho1 (Nat.le_trans HO.out.2.1 hcj.chg.size) hmlj hcl
      have hdd : dep + 1 + d = dep + (d + 1) := by omega
      rw [← lastK_append, hdd, Nat.add_assoc, ← List.length_append] at HC
      have ecd : (((dep + 1 : Nat) : Int)) = (dep : Int) + 1 := by omega
      rw [ecd] at HC
      by_cases hlt : j < its.length
      · have zj2 : (j : Int) < (its.length : Int) := by omega
        have htk : pre (its.take (j + 1)) ((ks.take (j + 1)).map Tr.ents) = pre (its.take j) ((ks.take j).map Tr.ents) ++ ks[j].ents ++ [its[j]] := by
          rw [List.take_succ_eq_append_getElem hlt, List.take_succ_eq_append_getElem hkj, List.map_append, List.map_singleton, pre_snoc _ _ _ _ (by simp; omega)]
        have hpo : post (its.drop j) ((ks.drop (j + 1)).map Tr.ents) = its[j] :: (ks[j + 1]'(by omega)).ents ++ post (its.drop (j + 1)) ((ks.drop (j + 2)).map Tr.ents) := by
          rw [← List.getElem_cons_drop hlt, ← List.getElem_cons_drop (show j + 1 < ks.length by omega)]
          rfl
        have hlst : ∀ l, lastK st (pre (its.take j) ((ks.take j).map Tr.ents) ++ ks[j].ents) = some l → kc l its[j].key < 0 := fun l hl => lastK_lt hs' hst' l hl _ (by rw [hpo]; simp)
        have hcl2 : cnt + (pre (its.take j) ((ks.take j).map Tr.ents) ++ ks[j].ents).length < 4611686018427387904 := by rw [List.length_append]; omega
        have hmlv : (ml ++ pre (its.take j) ((ks.take j).map Tr.ents) ++ ks[j].ents).length < 1048576 := by
          have := HO.out.2.2
          rw [hent, hpo] at this
          simp only [List.length_append, List.length_cons] at this ⊢
          omega
        have HTK : Hid ((ml ++ pre (its.take j) ((ks.take j).map Tr.ents) ++ ks[j].ents) ++ [its[j]] = ml ++ pre (its.take (j + 1)) ((ks.take (j + 1)).map Tr.ents)) := by
          show _ = _
          rw [htk]
          simp only [List.append_assoc]
        have HC1 : Hid (CS p out w o1 wr) := hcj
        have HV : ∀ W, ∀ o5, W.heap[p]? = some (wsObj ((dep + (d + 1) : Nat) : Int) (lastK st (pre (its.take j) ((ks.take j).map Tr.ents) ++ ks[j].ents)) (cnt + (pre (its.take j) ((ks.take j).map Tr.ents) ++ ks[j].ents).length) true o5) → EsAt E W o5 (ml ++ pre (its.take j) ((ks.take j).map Tr.ents) ++ ks[j].ents) → CS p out w o5 W → Calls Try.prog 63 #[.pointer (some ⟨b + 1, 0, none⟩), .int .i64 j, .pointer (some ⟨p, 0, none⟩)] W fun e w' => e = .returned (.tuple #[]) ∧ OutIs E p W o5 w' ((dep + (d + 1) : Nat) : Int) (some its[j].key) (cnt + (pre (its.take j) ((ks.take j).map Tr.ents) ++ ks[j].ents).length + 1) ((ml ++ pre (its.take j) ((ks.take j).map Tr.ents) ++ ks[j].ents) ++ [its[j]]) := fun W o5 hW hoW hcW => by
          have hNW := (he.chgC hp0 HO.out.1 hcW.chg).rep b _ hI.1
          have hnp := node_not_p hNW hW
          exact visit_yes p b j its.length its[j] W _ _ _ o5 E _ hW hoW (Nat.le_trans HO.out.2.1 hcW.chg.size) hmlv hlst hcl2 hNW.hdr hlt (hNW.items.at hlt).1 (hNW.items.at hlt).2 hnp.1 hnp.2
        have HVH : Hid (∀ W, ∀ o5, W.heap[p]? = some (wsObj ((dep + (d + 1) : Nat) : Int) (lastK st (pre (its.take j) ((ks.take j).map Tr.ents) ++ ks[j].ents)) (cnt + (pre (its.take j) ((ks.take j).map Tr.ents) ++ ks[j].ents).length) true o5) → EsAt E W o5 (ml ++ pre (its.take j) ((ks.take j).map Tr.ents) ++ ks[j].ents) → CS p out w o5 W → Calls Try.prog 63 #[.pointer (some ⟨b + 1, 0, none⟩), .int .i64 j, .pointer (some ⟨p, 0, none⟩)] W fun e w' => e = .returned (.tuple #[]) ∧ OutIs E p W o5 w' ((dep + (d + 1) : Nat) : Int) (some its[j].key) (cnt + (pre (its.take j) ((ks.take j).map Tr.ents) ++ ks[j].ents).length + 1) ((ml ++ pre (its.take j) ((ks.take j).map Tr.ents) ++ ks[j].ents) ++ [its[j]])) := HV
        have HK : Hid (lastK st (pre (its.take (j + 1)) ((ks.take (j + 1)).map Tr.ents)) = some its[j].key ∧ (pre (its.take (j + 1)) ((ks.take (j + 1)).map Tr.ents)).length = (pre (its.take j) ((ks.take j).map Tr.ents) ++ ks[j].ents).length + 1) := by
          refine ⟨?_, ?_⟩
          · rw [htk, lastK_snoc]
          · rw [htk]; simp; omega
        clear hp0 hld0 he hI hok hs hst hc hej hNj h2j hkid hksp hent hs' hst' hcl hdd ecd htk hpo hlst hcl2 HV hpj hld' hmlv hmlj ho1 hcj
        unfold ptr at A38 HC
        go_wp2_with fail
        refine A38.mono ?_
        rintro e w1 ⟨rfl, rfl⟩
        go_wp2_with fail
        refine HC.mono ?_
        rintro e w5 ⟨rfl, o5, hp5, ho5, hc5⟩
        go_wp2_with fail
        refine (HVH.out w5 o5 hp5 ho5 (HC1.out.trans hc5)).mono ?_
        rintro e w6 ⟨rfl, o6, hp6, ho6, hc6⟩
        go_wp2_with fail
        go_roundg (gk - 1)
        case measure => omega
        case rel => exact ⟨j + 1, _, by go_num, by omega, by omega, .inr rfl, o6, by rw [HK.out.1, HK.out.2, ← Nat.add_assoc]; exact hp6, by rw [← HTK.out]; exact ho6, (HC1.out.trans hc5).trans hc6⟩
      · obtain rfl : j = its.length := by omega
        have hlast : (node b its ks).ents = pre (its.take its.length) ((ks.take its.length).map Tr.ents) ++ ks[its.length].ents := by
          rw [hent, List.drop_length]
          simp [post]
        have HE : Hid ((node b its ks).ents = pre (its.take its.length) ((ks.take its.length).map Tr.ents) ++ ks[its.length].ents) := hlast
        have HC1 : Hid (CS p out w o1 wr) := hcj
        clear hp0 hld0 he hI hok hs hst hc hej hNj h2j hkid hksp hent hs' hst' hcl hdd ecd hpj hld' hlast hmlj ho1 hcj
        unfold ptr at A38 HC
        go_wp2_with fail
        refine A38.mono ?_
        rintro e w1 ⟨rfl, rfl⟩
        go_wp2_with fail
        refine HC.mono ?_
        rintro e w5 ⟨rfl, o5, hp5, ho5, hc5⟩
        go_wp2_with fail
        refine bodyPost_end (v := .tuple #[]) (by simp [results, Try.results47, go_sem]) rfl ⟨rfl, ?_⟩
        rw [show Tr.ents (d := d + 1) (b, its, ks) = _ from HE.out]
        exact ⟨o5, hp5, by rw [← List.append_assoc]; exact ho5, HC1.out.trans hc5⟩
  · clear z4
    go_enter Try.func47, Try.ntmps47
    go_wp2_with fail
    refine A40.mono ?_
    rintro e w1 ⟨rfl, rfl⟩
    go_wp2_with fail
    refine A36.mono ?_
    rintro e w1 ⟨rfl, rfl⟩
    go_wp2_with fail
    refine A37.mono ?_
    rintro e w1 ⟨rfl, rfl⟩
    go_wp2_with fail
    go_loopg [10] (its.length + 1) (fun g x wr => ∃ (j : Nat) (ld' : Int), x = .int .i64 j ∧ j ≤ its.length ∧ its.length - j < g ∧ (ld' < 0 ∨ ld' = ((dep + (d + 1) : Nat) : Int)) ∧ OutIs E p w out wr ld' (lastK st (pre (its.take j) ((ks.take j).map Tr.ents))) (cnt + (pre (its.take j) ((ks.take j).map Tr.ents)).length) (ml ++ pre (its.take j) ((ks.take j).map Tr.ents)))
    case atStart => exact ⟨0, ld, rfl, Nat.zero_le _, by omega, HP.out.2.1, out, by simpa [pre, lastK] using HP.out.1, by simpa [pre] using HO.out.1, CS.refl _ _ _⟩
    case round =>
      obtain ⟨j, ld', rfl, hj, hg, hld', o1, hpj, ho1, hcj⟩ := hrel
      have zj : (0 : Int) ≤ (j : Int) := Int.natCast_nonneg _
      have hkj : j < ks.length := by omega
      obtain ⟨hp0, hld0, he, hI, hok, hs, hst, hc⟩ := HP.out
      have hej := he.chgC hp0 HO.out.1 hcj.chg
      have hNj := hej.rep b _ hI.1
      have h2j : wr.cell? ⟨b + 1, 2, none⟩ = some (.slice (some ⟨b + 2, 0, none⟩) (its.length + 1) 32) := by
        have : wr.cell? ⟨b + 1, 2, none⟩ = some (.slice (some ⟨b + 2, 0, none⟩) (ks.map Tr.root).length 32) := hNj.khdr
        rw [List.length_map, hkl] at this
        exact this
      have hkid : wr.cell? ⟨b + 2, j, none⟩ = some (ptr ks[j].root) := by
        have hk' : j < (ks.map Tr.root).length := by simpa using hkj
        have : wr.cell? ⟨b + 2, j, none⟩ = some (ptr (ks.map Tr.root)[j]) := hNj.kid rfl hk'
        rw [List.getElem_map] at this
        exact this
      have A38 := acc38 b j (its.length + 1) _ wr h2j (by omega) hkid
      have hksp : ks = ks.take j ++ ks[j] :: ks.drop (j + 1) := by rw [List.getElem_cons_drop, List.take_append_drop]
      have hent : (node b its ks).ents = pre (its.take j) ((ks.take j).map Tr.ents) ++ ks[j].ents ++ post (its.drop j) ((ks.drop (j + 1)).map Tr.ents) := by
        have := ents_at b (its.take j) (its.drop j) (ks.take j) (ks.drop (j + 1)) ks[j] (by rw [List.length_take, List.length_take]; omega) (by rw [List.length_drop, List.length_drop]; omega)
        rw [List.take_append_drop, ← hksp] at this
        exact this
      have hs' := hs
      have hst' := hst
      rw [hent] at hs' hst'
      have hcl : cnt + (pre (its.take j) ((ks.take j).map Tr.ents)).length + ks[j].ents.length < 4611686018427387904 := by
        rw [hent] at hc
        simp only [List.length_append] at hc
        omega
      have hmlj : (ml ++ pre (its.take j) ((ks.take j).map Tr.ents)).length + ks[j].ents.length ≤ 1048576 := by
        have := HO.out.2.2
        rw [hent] at this
        simp only [List.length_append] at this ⊢
        omega
      have HC := IH ks[j] 15 false (dep + 1) B σ wr p ld' _ _ o1 E _ hej (hI.2 _ (List.getElem_mem hkj)) (hok.2.2.2 _ (List.getElem_mem hkj)) (fun _ => Nat.le_refl _) (by omega) (by rcases hld' with h | h; exact .inl h; exact .inr (by rw [h]; congr 1; omega)) hs'.left.right (lastK_lt hs'.left (fun l hl e he => hst' l hl e (List.mem_append.2 (.inl he)))) hpj ho1 (Nat.le_trans HO.out.2.1 hcj.chg.size) hmlj hcl
      have hdd : dep + 1 + d = dep + (d + 1) := by omega
      rw [← lastK_append, hdd, Nat.add_assoc, ← List.length_append] at HC
      have ecd : (((dep + 1 : Nat) : Int)) = (dep : Int) + 1 := by omega
      rw [ecd] at HC
      by_cases hlt : j < its.length
      · have zj2 : (j : Int) < (its.length : Int) := by omega
        have htk : pre (its.take (j + 1)) ((ks.take (j + 1)).map Tr.ents) = pre (its.take j) ((ks.take j).map Tr.ents) ++ ks[j].ents ++ [its[j]] := by
          rw [List.take_succ_eq_append_getElem hlt, List.take_succ_eq_append_getElem hkj, List.map_append, List.map_singleton, pre_snoc _ _ _ _ (by simp; omega)]
        have hpo : post (its.drop j) ((ks.drop (j + 1)).map Tr.ents) = its[j] :: (ks[j + 1]'(by omega)).ents ++ post (its.drop (j + 1)) ((ks.drop (j + 2)).map Tr.ents) := by
          rw [← List.getElem_cons_drop hlt, ← List.getElem_cons_drop (show j + 1 < ks.length by omega)]
          rfl
        have hlst : ∀ l, lastK st (pre (its.take j) ((ks.take j).map Tr.ents) ++ ks[j].ents) = some l → kc l its[j].key < 0 := fun l hl => lastK_lt hs' hst' l hl _ (by rw [hpo]; simp)
        have hcl2 : cnt + (pre (its.take j) ((ks.take j).map Tr.ents) ++ ks[j].ents).length < 4611686018427387904 := by rw [List.length_append]; omega
        have hmlv : (ml ++ pre (its.take j) ((ks.take j).map Tr.ents) ++ ks[j].ents).length < 1048576 := by
          have := HO.out.2.2
          rw [hent, hpo] at this
          simp only [List.length_append, List.length_cons] at this ⊢
          omega
        have HTK : Hid ((ml ++ pre (its.take j) ((ks.take j).map Tr.ents) ++ ks[j].ents) ++ [its[j]] = ml ++ pre (its.take (j + 1)) ((ks.take (j + 1)).map Tr.ents)) := by
          show _ = _
          rw [htk]
          simp only [List.append_assoc]
        have HC1 : Hid (CS p out w o1 wr) := hcj
        have HV : ∀ W, ∀ o5, W.heap[p]? = some (wsObj ((dep + (d + 1) : Nat) : Int) (lastK st (pre (its.take j) ((ks.take j).map Tr.ents) ++ ks[j].ents)) (cnt + (pre (its.take j) ((ks.take j).map Tr.ents) ++ ks[j].ents).length) true o5) → EsAt E W o5 (ml ++ pre (its.take j) ((ks.take j).map Tr.ents) ++ ks[j].ents) → CS p out w o5 W → Calls Try.prog 63 #[.pointer (some ⟨b + 1, 0, none⟩), .int .i64 j, .pointer (some ⟨p, 0, none⟩)] W fun e w' => e = .returned (.tuple #[]) ∧ OutIs E p W o5 w' ((dep + (d + 1) : Nat) : Int) (some its[j].key) (cnt + (pre (its.take j) ((ks.take j).map Tr.ents) ++ ks[j].ents).length + 1) ((ml ++ pre (its.take j) ((ks.take j).map Tr.ents) ++ ks[j].ents) ++ [its[j]]) := fun W o5 hW hoW hcW => by
          have hNW := (he.chgC hp0 HO.out.1 hcW.chg).rep b _ hI.1
          have hnp := node_not_p hNW hW
          exact visit_yes p b j its.length its[j] W _ _ _ o5 E _ hW hoW (Nat.le_trans HO.out.2.1 hcW.chg.size) hmlv hlst hcl2 hNW.hdr hlt (hNW.items.at hlt).1 (hNW.items.at hlt).2 hnp.1 hnp.2
        have HVH : Hid (∀ W, ∀ o5, W.heap[p]? = some (wsObj ((dep + (d + 1) : Nat) : Int) (lastK st (pre (its.take j) ((ks.take j).map Tr.ents) ++ ks[j].ents)) (cnt + (pre (its.take j) ((ks.take j).map Tr.ents) ++ ks[j].ents).length) true o5) → EsAt E W o5 (ml ++ pre (its.take j) ((ks.take j).map Tr.ents) ++ ks[j].ents) → CS p out w o5 W → Calls Try.prog 63 #[.pointer (some ⟨b + 1, 0, none⟩), .int .i64 j, .pointer (some ⟨p, 0, none⟩)] W fun e w' => e = .returned (.tuple #[]) ∧ OutIs E p W o5 w' ((dep + (d + 1) : Nat) : Int) (some its[j].key) (cnt + (pre (its.take j) ((ks.take j).map Tr.ents) ++ ks[j].ents).length + 1) ((ml ++ pre (its.take j) ((ks.take j).map Tr.ents) ++ ks[j].ents) ++ [its[j]])) := HV
        have HK : Hid (lastK st (pre (its.take (j + 1)) ((ks.take (j + 1)).map Tr.ents)) = some its[j].key ∧ (pre (its.take (j + 1)) ((ks.take (j + 1)).map Tr.ents)).length = (pre (its.take j) ((ks.take j).map Tr.ents) ++ ks[j].ents).length + 1) := by
          refine ⟨?_, ?_⟩
          · rw [htk, lastK_snoc]
          · rw [htk]; simp; omega
        clear hp0 hld0 he hI hok hs hst hc hej hNj h2j hkid hksp hent hs' hst' hcl hdd ecd htk hpo hlst hcl2 HV hpj hld' hmlv hmlj ho1 hcj
        unfold ptr at A38 HC
        go_wp2_with fail
        refine A38.mono ?_
        rintro e w1 ⟨rfl, rfl⟩
        go_wp2_with fail
        refine HC.mono ?_
        rintro e w5 ⟨rfl, o5, hp5, ho5, hc5⟩
        go_wp2_with fail
        refine (HVH.out w5 o5 hp5 ho5 (HC1.out.trans hc5)).mono ?_
        rintro e w6 ⟨rfl, o6, hp6, ho6, hc6⟩
        go_wp2_with fail
        go_roundg (gk - 1)
        case measure => omega
        case rel => exact ⟨j + 1, _, by go_num, by omega, by omega, .inr rfl, o6, by rw [HK.out.1, HK.out.2, ← Nat.add_assoc]; exact hp6, by rw [← HTK.out]; exact ho6, (HC1.out.trans hc5).trans hc6⟩
      · obtain rfl : j = its.length := by omega
        have hlast : (node b its ks).ents = pre (its.take its.length) ((ks.take its.length).map Tr.ents) ++ ks[its.length].ents := by
          rw [hent, List.drop_length]
          simp [post]
        have HE : Hid ((node b its ks).ents = pre (its.take its.length) ((ks.take its.length).map Tr.ents) ++ ks[its.length].ents) := hlast
        have HC1 : Hid (CS p out w o1 wr) := hcj
        clear hp0 hld0 he hI hok hs hst hc hej hNj h2j hkid hksp hent hs' hst' hcl hdd ecd hpj hld' hlast hmlj ho1 hcj
        unfold ptr at A38 HC
        go_wp2_with fail
        refine A38.mono ?_
        rintro e w1 ⟨rfl, rfl⟩
        go_wp2_with fail
        refine HC.mono ?_
        rintro e w5 ⟨rfl, o5, hp5, ho5, hc5⟩
        go_wp2_with fail
        refine bodyPost_end (v := .tuple #[]) (by simp [results, Try.results47, go_sem]) rfl ⟨rfl, ?_⟩
        rw [show Tr.ents (d := d + 1) (b, its, ks) = _ from HE.out]
        exact ⟨o5, hp5, by rw [← List.append_assoc]; exact ho5, HC1.out.trans hc5⟩

theorem walkY_all : ∀ d : Nat, WalkSpecY d
  | 0 => walkY_zero
  | d + 1 => walkY_succ d (walkY_all d)
end Go.Proofs.Qxb6603401a
