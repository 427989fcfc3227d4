import Derived.Test.Qxb6603401aWalk
namespace Go.Proofs.Qxb6603401a
open Go Go.RowKit

def WalkSpec (d : Nat) : Prop := ∀ (t : Tr d) (m : Nat) (root : Bool) (dep B : Nat) (σ : Store) (w : World) (p : Nat) (ld : Int) (st : Option ByteArray) (cnt : Nat) (out : Value), Env noKeep B σ w → t.In σ → t.Ok m → (root = false → 15 ≤ m) → dep + d ≤ 64 →
    (ld < 0 ∨ ld = ((dep + d : Nat) : Int)) → Sorted t.ents → (∀ l, st = some l → ∀ e ∈ t.ents, kc l e.key < 0) → w.heap[p]? = some (wsObj ld st cnt false out) → cnt + t.ents.length < 4611686018427387904 →
    Calls Try.prog 47 #[ptr t.root, .int .i64 (dep : Nat), .bool root, .pointer (some ⟨p, 0, none⟩)] w fun e w' => e = .returned (.tuple #[]) ∧ w'.heap[p]? = some (wsObj ((dep + d : Nat) : Int) (lastK st t.ents) (cnt + t.ents.length) false out) ∧ Chg [p] w w'

theorem walk_zero : WalkSpec 0 := by
  intro t m root dep B σ w p ld st cnt out he hI hok hr hdep hld hs hst hp hc
  obtain ⟨b, its⟩ := t
  exact walk_leaf b its m root dep B σ w p ld st cnt out he hI hok hr hdep hld hs hst hp hc

set_option maxHeartbeats 8000000 in
set_option maxRecDepth 100000 in
theorem walk_succ (d : Nat) (IH : WalkSpec d) : WalkSpec (d + 1) := by
  intro t m root dep B σ w p ld st cnt out he hI hok hr hdep hld hs hst hp hc
  obtain ⟨b, its, ks⟩ := t
  have hkl : ks.length = its.length + 1 := hok.2.2.1
  have hN := he.rep b _ hI.1
  have h1 : w.cell? ⟨b + 1, 1, none⟩ = some (.slice (some ⟨b, 0, none⟩) its.length 31) := hN.hdr
  have h2 : w.cell? ⟨b + 1, 2, none⟩ = some (.slice (some ⟨b + 2, 0, none⟩) (its.length + 1) 32) := by
    have : w.cell? ⟨b + 1, 2, none⟩ = some (.slice (some ⟨b + 2, 0, none⟩) (ks.map Tr.root).length 32) := hN.khdr
    rw [List.length_map, hkl] at this
    exact this
  have hl31 : its.length ≤ 31 := hok.2.1
  have hlm : m ≤ its.length := hok.1
  have A40 := acc40 b its.length w h1
  have A36 := acc36 b _ _ _ w h2
  have A37 := acc37 b _ _ _ w h2
  simp only [Option.isNone] at A36
  have hz := binNil30
  have z1 : (0 : Int) ≤ (dep : Int) := Int.natCast_nonneg _
  have z2 : (dep : Int) ≤ 64 := by omega
  have z3 : (its.length : Int) ≤ 31 := by omega
  have z4 : root = false → (15 : Int) ≤ (its.length : Int) := fun h => by have := hr h; omega
  have HP : Hid (w.heap[p]? = some (wsObj ld st cnt false out) ∧ (ld < 0 ∨ ld = ((dep + (d + 1) : Nat) : Int)) ∧ Env noKeep B σ w ∧ (node b its ks).In σ ∧ (node b its ks).Ok m ∧ Sorted (node b its ks).ents ∧ (∀ l, st = some l → ∀ e ∈ (node b its ks).ents, kc l e.key < 0) ∧ cnt + (node b its ks).ents.length < 4611686018427387904) := ⟨hp, hld, he, hI, hok, hs, hst, hc⟩
  clear hN he hI hok hs hst hp hr hc h1 h2 hld
  show Calls Try.prog 47 #[ptr b, .int .i64 (dep : Nat), .bool root, .pointer (some ⟨p, 0, none⟩)] w _
  unfold ptr at A40 A36 A37 ⊢
  cases root
  · have z5 := z4 rfl
    clear z4
    go_enter Try.func47, Try.ntmps47
    go_wp2_with fail
    refine A40.mono ?_
    rintro e w1 ⟨rfl, rfl⟩
    go_wp2_with fail
    refine A36.mono ?_
    rintro e w1 ⟨rfl, rfl⟩
    go_wp2_with fail
    refine A37.mono ?_
    rintro e w1 ⟨rfl, rfl⟩
    go_wp2_with fail
    go_loopg [10] (its.length + 1) (fun g x wr => ∃ (j : Nat) (ld' : Int), x = .int .i64 j ∧ j ≤ its.length ∧ its.length - j < g ∧ (ld' < 0 ∨ ld' = ((dep + (d + 1) : Nat) : Int)) ∧ wr.heap[p]? = some (wsObj ld' (lastK st (pre (its.take j) ((ks.take j).map Tr.ents))) (cnt + (pre (its.take j) ((ks.take j).map Tr.ents)).length) false out) ∧ Chg [p] w wr)
    case atStart => exact ⟨0, ld, rfl, Nat.zero_le _, by omega, HP.out.2.1, by simpa [pre, lastK] using HP.out.1, Chg.refl _ _⟩
    case round =>
      obtain ⟨j, ld', rfl, hj, hg, hld', hpj, hcj⟩ := hrel
      have zj : (0 : Int) ≤ (j : Int) := Int.natCast_nonneg _
      have hkj : j < ks.length := by omega
      obtain ⟨hp0, hld0, he, hI, hok, hs, hst, hc⟩ := HP.out
      have hej := he.chgP hp0 hcj
      have hNj := hej.rep b _ hI.1
      have h2j : wr.cell? ⟨b + 1, 2, none⟩ = some (.slice (some ⟨b + 2, 0, none⟩) (its.length + 1) 32) := by
        have : wr.cell? ⟨b + 1, 2, none⟩ = some (.slice (some ⟨b + 2, 0, none⟩) (ks.map Tr.root).length 32) := hNj.khdr
        rw [List.length_map, hkl] at this
        exact this
      have hkid : wr.cell? ⟨b + 2, j, none⟩ = some (ptr ks[j].root) := by
        have hk' : j < (ks.map Tr.root).length := by simpa using hkj
        have : wr.cell? ⟨b + 2, j, none⟩ = some (ptr (ks.map Tr.root)[j]) := hNj.kid rfl hk'
        rw [List.getElem_map] at this
        exact this
      have A38 := acc38 b j (its.length + 1) _ wr h2j (by omega) hkid
      have hksp : ks = ks.take j ++ ks[j] :: ks.drop (j + 1) := by rw [List.getElem_cons_drop, List.take_append_drop]
      have hent : (node b its ks).ents = pre (its.take j) ((ks.take j).map Tr.ents) ++ ks[j].ents ++ post (its.drop j) ((ks.drop (j + 1)).map Tr.ents) := by
        have := ents_at b (its.take j) (its.drop j) (ks.take j) (ks.drop (j + 1)) ks[j] (by rw [List.length_take, List.length_take]; omega) (by rw [List.length_drop, List.length_drop]; omega)
        rw [List.take_append_drop, ← hksp] at this
        exact this
      have hs' := hs
      have hst' := hst
      rw [hent] at hs' hst'
      have hcl : cnt + (pre (its.take j) ((ks.take j).map Tr.ents)).length + ks[j].ents.length < 4611686018427387904 := by
        rw [hent] at hc
        simp only [List.length_append] at hc
        omega
      have HC := IH ks[j] 15 false (dep + 1) B σ wr p ld' _ _ out hej (hI.2 _ (List.getElem_mem hkj)) (hok.2.2.2 _ (List.getElem_mem hkj)) (fun _ => Nat.le_refl _) (by omega) (by rcases hld' with h | h; exact .inl h; exact .inr (by rw [h]; congr 1; omega)) hs'.left.right (lastK_lt hs'.left (fun l hl e he => hst' l hl e (List.mem_append.2 (.inl he)))) hpj hcl
      have hdd : dep + 1 + d = dep + (d + 1) := by omega
      rw [← lastK_append, hdd, Nat.add_assoc, ← List.length_append] at HC
      have ecd : (((dep + 1 : Nat) : Int)) = (dep : Int) + 1 := by omega
      rw [ecd] at HC
      by_cases hlt : j < its.length
      · have zj2 : (j : Int) < (its.length : Int) := by omega
        have htk : pre (its.take (j + 1)) ((ks.take (j + 1)).map Tr.ents) = pre (its.take j) ((ks.take j).map Tr.ents) ++ ks[j].ents ++ [its[j]] := by
          rw [List.take_succ_eq_append_getElem hlt, List.take_succ_eq_append_getElem hkj, List.map_append, List.map_singleton, pre_snoc _ _ _ _ (by simp; omega)]
        have hpo : post (its.drop j) ((ks.drop (j + 1)).map Tr.ents) = its[j] :: (ks[j + 1]'(by omega)).ents ++ post (its.drop (j + 1)) ((ks.drop (j + 2)).map Tr.ents) := by
          rw [← List.getElem_cons_drop hlt, ← List.getElem_cons_drop (show j + 1 < ks.length by omega)]
          rfl
        have hlst : ∀ l, lastK st (pre (its.take j) ((ks.take j).map Tr.ents) ++ ks[j].ents) = some l → kc l its[j].key < 0 := fun l hl => lastK_lt hs' hst' l hl _ (by rw [hpo]; simp)
        have hcl2 : cnt + (pre (its.take j) ((ks.take j).map Tr.ents) ++ ks[j].ents).length < 4611686018427387904 := by rw [List.length_append]; omega
        have HV : ∀ W, W.heap[p]? = some (wsObj ((dep + (d + 1) : Nat) : Int) (lastK st (pre (its.take j) ((ks.take j).map Tr.ents) ++ ks[j].ents)) (cnt + (pre (its.take j) ((ks.take j).map Tr.ents) ++ ks[j].ents).length) false out) → Chg [p] w W → Calls Try.prog 63 #[.pointer (some ⟨b + 1, 0, none⟩), .int .i64 j, .pointer (some ⟨p, 0, none⟩)] W fun e w' => e = .returned (.tuple #[]) ∧ w'.heap[p]? = some (wsObj ((dep + (d + 1) : Nat) : Int) (some its[j].key) (cnt + (pre (its.take j) ((ks.take j).map Tr.ents) ++ ks[j].ents).length + 1) false out) ∧ Chg [p] W w' := fun W hW hcW => by
          have hNW := (he.chgP hp0 hcW).rep b _ hI.1
          exact visit_no p b j its.length its[j].key W _ _ _ out hW hlst hcl2 hNW.hdr hlt (hNW.items.at hlt).1
        have HVH : Hid (∀ W, W.heap[p]? = some (wsObj ((dep + (d + 1) : Nat) : Int) (lastK st (pre (its.take j) ((ks.take j).map Tr.ents) ++ ks[j].ents)) (cnt + (pre (its.take j) ((ks.take j).map Tr.ents) ++ ks[j].ents).length) false out) → Chg [p] w W → Calls Try.prog 63 #[.pointer (some ⟨b + 1, 0, none⟩), .int .i64 j, .pointer (some ⟨p, 0, none⟩)] W fun e w' => e = .returned (.tuple #[]) ∧ w'.heap[p]? = some (wsObj ((dep + (d + 1) : Nat) : Int) (some its[j].key) (cnt + (pre (its.take j) ((ks.take j).map Tr.ents) ++ ks[j].ents).length + 1) false out) ∧ Chg [p] W w') := HV
        have HK : Hid (lastK st (pre (its.take (j + 1)) ((ks.take (j + 1)).map Tr.ents)) = some its[j].key ∧ (pre (its.take (j + 1)) ((ks.take (j + 1)).map Tr.ents)).length = (pre (its.take j) ((ks.take j).map Tr.ents) ++ ks[j].ents).length + 1) := by
          refine ⟨?_, ?_⟩
          · rw [htk, lastK_snoc]
          · rw [htk]; simp; omega
        clear hp0 hld0 he hI hok hs hst hc hej hNj h2j hkid hksp hent hs' hst' hcl hdd ecd htk hpo hlst hcl2 HV hpj hld'
        unfold ptr at A38 HC
        go_wp2_with fail
        refine A38.mono ?_
        rintro e w1 ⟨rfl, rfl⟩
        go_wp2_with fail
        refine HC.mono ?_
        rintro e w5 ⟨rfl, hp5, hc5⟩
        go_wp2_with fail
        refine (HVH.out w5 hp5 (hcj.trans hc5)).mono ?_
        rintro e w6 ⟨rfl, hp6, hc6⟩
        go_wp2_with fail
        go_roundg (gk - 1)
        case measure => omega
        case rel => exact ⟨j + 1, _, by go_num, by omega, by omega, .inr rfl, by rw [HK.out.1, HK.out.2, ← Nat.add_assoc]; exact hp6, (hcj.trans hc5).trans hc6⟩
      · obtain rfl : j = its.length := by omega
        have hlast : (node b its ks).ents = pre (its.take its.length) ((ks.take its.length).map Tr.ents) ++ ks[its.length].ents := by
          rw [hent, List.drop_length]
          simp [post]
        have HE : Hid ((node b its ks).ents = pre (its.take its.length) ((ks.take its.length).map Tr.ents) ++ ks[its.length].ents) := hlast
        clear hp0 hld0 he hI hok hs hst hc hej hNj h2j hkid hksp hent hs' hst' hcl hdd ecd hpj hld' hlast
        unfold ptr at A38 HC
        go_wp2_with fail
        refine A38.mono ?_
        rintro e w1 ⟨rfl, rfl⟩
        go_wp2_with fail
        refine HC.mono ?_
        rintro e w5 ⟨rfl, hp5, hc5⟩
        go_wp2_with fail
        refine bodyPost_end (v := .tuple #[]) (by simp [results, Try.results47, go_sem]) rfl ⟨rfl, ?_, hcj.trans hc5⟩
        rw [show Tr.ents (d := d + 1) (b, its, ks) = _ from HE.out]
        exact hp5
  · clear z4
    go_enter Try.func47, Try.ntmps47
    go_wp2_with fail
    refine A40.mono ?_
    rintro e w1 ⟨rfl, rfl⟩
    go_wp2_with fail
    refine A36.mono ?_
    rintro e w1 ⟨rfl, rfl⟩
    go_wp2_with fail
    refine A37.mono ?_
    rintro e w1 ⟨rfl, rfl⟩
    go_wp2_with fail
    go_loopg [10] (its.length + 1) (fun g x wr => ∃ (j : Nat) (ld' : Int), x = .int .i64 j ∧ j ≤ its.length ∧ its.length - j < g ∧ (ld' < 0 ∨ ld' = ((dep + (d + 1) : Nat) : Int)) ∧ wr.heap[p]? = some (wsObj ld' (lastK st (pre (its.take j) ((ks.take j).map Tr.ents))) (cnt + (pre (its.take j) ((ks.take j).map Tr.ents)).length) false out) ∧ Chg [p] w wr)
    case atStart => exact ⟨0, ld, rfl, Nat.zero_le _, by omega, HP.out.2.1, by simpa [pre, lastK] using HP.out.1, Chg.refl _ _⟩
    case round =>
      obtain ⟨j, ld', rfl, hj, hg, hld', hpj, hcj⟩ := hrel
      have zj : (0 : Int) ≤ (j : Int) := Int.natCast_nonneg _
      have hkj : j < ks.length := by omega
      obtain ⟨hp0, hld0, he, hI, hok, hs, hst, hc⟩ := HP.out
      have hej := he.chgP hp0 hcj
      have hNj := hej.rep b _ hI.1
      have h2j : wr.cell? ⟨b + 1, 2, none⟩ = some (.slice (some ⟨b + 2, 0, none⟩) (its.length + 1) 32) := by
        have : wr.cell? ⟨b + 1, 2, none⟩ = some (.slice (some ⟨b + 2, 0, none⟩) (ks.map Tr.root).length 32) := hNj.khdr
        rw [List.length_map, hkl] at this
        exact this
      have hkid : wr.cell? ⟨b + 2, j, none⟩ = some (ptr ks[j].root) := by
        have hk' : j < (ks.map Tr.root).length := by simpa using hkj
        have : wr.cell? ⟨b + 2, j, none⟩ = some (ptr (ks.map Tr.root)[j]) := hNj.kid rfl hk'
        rw [List.getElem_map] at this
        exact this
      have A38 := acc38 b j (its.length + 1) _ wr h2j (by omega) hkid
      have hksp : ks = ks.take j ++ ks[j] :: ks.drop (j + 1) := by rw [List.getElem_cons_drop, List.take_append_drop]
      have hent : (node b its ks).ents = pre (its.take j) ((ks.take j).map Tr.ents) ++ ks[j].ents ++ post (its.drop j) ((ks.drop (j + 1)).map Tr.ents) := by
        have := ents_at b (its.take j) (its.drop j) (ks.take j) (ks.drop (j + 1)) ks[j] (by rw [List.length_take, List.length_take]; omega) (by rw [List.length_drop, List.length_drop]; omega)
        rw [List.take_append_drop, ← hksp] at this
        exact this
      have hs' := hs
      have hst' := hst
      rw [hent] at hs' hst'
      have hcl : cnt + (pre (its.take j) ((ks.take j).map Tr.ents)).length + ks[j].ents.length < 4611686018427387904 := by
        rw [hent] at hc
        simp only [List.length_append] at hc
        omega
      have HC := IH ks[j] 15 false (dep + 1) B σ wr p ld' _ _ out hej (hI.2 _ (List.getElem_mem hkj)) (hok.2.2.2 _ (List.getElem_mem hkj)) (fun _ => Nat.le_refl _) (by omega) (by rcases hld' with h | h; exact .inl h; exact .inr (by rw [h]; congr 1; omega)) hs'.left.right (lastK_lt hs'.left (fun l hl e he => hst' l hl e (List.mem_append.2 (.inl he)))) hpj hcl
      have hdd : dep + 1 + d = dep + (d + 1) := by omega
      rw [← lastK_append, hdd, Nat.add_assoc, ← List.length_append] at HC
      have ecd : (((dep + 1 : Nat) : Int)) = (dep : Int) + 1 := by omega
      rw [ecd] at HC
      by_cases hlt : j < its.length
      · have zj2 : (j : Int) < (its.length : Int) := by omega
        have htk : pre (its.take (j + 1)) ((ks.take (j + 1)).map Tr.ents) = pre (its.take j) ((ks.take j).map Tr.ents) ++ ks[j].ents ++ [its[j]] := by
          rw [List.take_succ_eq_append_getElem hlt, List.take_succ_eq_append_getElem hkj, List.map_append, List.map_singleton, pre_snoc _ _ _ _ (by simp; omega)]
        have hpo : post (its.drop j) ((ks.drop (j + 1)).map Tr.ents) = its[j] :: (ks[j + 1]'(by omega)).ents ++ post (its.drop (j + 1)) ((ks.drop (j + 2)).map Tr.ents) := by
          rw [← List.getElem_cons_drop hlt, ← List.getElem_cons_drop (show j + 1 < ks.length by omega)]
          rfl
        have hlst : ∀ l, lastK st (pre (its.take j) ((ks.take j).map Tr.ents) ++ ks[j].ents) = some l → kc l its[j].key < 0 := fun l hl => lastK_lt hs' hst' l hl _ (by rw [hpo]; simp)
        have hcl2 : cnt + (pre (its.take j) ((ks.take j).map Tr.ents) ++ ks[j].ents).length < 4611686018427387904 := by rw [List.length_append]; omega
        have HV : ∀ W, W.heap[p]? = some (wsObj ((dep + (d + 1) : Nat) : Int) (lastK st (pre (its.take j) ((ks.take j).map Tr.ents) ++ ks[j].ents)) (cnt + (pre (its.take j) ((ks.take j).map Tr.ents) ++ ks[j].ents).length) false out) → Chg [p] w W → Calls Try.prog 63 #[.pointer (some ⟨b + 1, 0, none⟩), .int .i64 j, .pointer (some ⟨p, 0, none⟩)] W fun e w' => e = .returned (.tuple #[]) ∧ w'.heap[p]? = some (wsObj ((dep + (d + 1) : Nat) : Int) (some its[j].key) (cnt + (pre (its.take j) ((ks.take j).map Tr.ents) ++ ks[j].ents).length + 1) false out) ∧ Chg [p] W w' := fun W hW hcW => by
          have hNW := (he.chgP hp0 hcW).rep b _ hI.1
          exact visit_no p b j its.length its[j].key W _ _ _ out hW hlst hcl2 hNW.hdr hlt (hNW.items.at hlt).1
        have HVH : Hid (∀ W, W.heap[p]? = some (wsObj ((dep + (d + 1) : Nat) : Int) (lastK st (pre (its.take j) ((ks.take j).map Tr.ents) ++ ks[j].ents)) (cnt + (pre (its.take j) ((ks.take j).map Tr.ents) ++ ks[j].ents).length) false out) → Chg [p] w W → Calls Try.prog 63 #[.pointer (some ⟨b + 1, 0, none⟩), .int .i64 j, .pointer (some ⟨p, 0, none⟩)] W fun e w' => e = .returned (.tuple #[]) ∧ w'.heap[p]? = some (wsObj ((dep + (d + 1) : Nat) : Int) (some its[j].key) (cnt + (pre (its.take j) ((ks.take j).map Tr.ents) ++ ks[j].ents).length + 1) false out) ∧ Chg [p] W w') := HV
        have HK : Hid (lastK st (pre (its.take (j + 1)) ((ks.take (j + 1)).map Tr.ents)) = some its[j].key ∧ (pre (its.take (j + 1)) ((ks.take (j + 1)).map Tr.ents)).length = (pre (its.take j) ((ks.take j).map Tr.ents) ++ ks[j].ents).length + 1) := by
          refine ⟨?_, ?_⟩
          · rw [htk, lastK_snoc]
          · rw [htk]; simp; omega
        clear hp0 hld0 he hI hok hs hst hc hej hNj h2j hkid hksp hent hs' hst' hcl hdd ecd htk hpo hlst hcl2 HV hpj hld'
        unfold ptr at A38 HC
        go_wp2_with fail
        refine A38.mono ?_
        rintro e w1 ⟨rfl, rfl⟩
        go_wp2_with fail
        refine HC.mono ?_
        rintro e w5 ⟨rfl, hp5, hc5⟩
        go_wp2_with fail
        refine (HVH.out w5 hp5 (hcj.trans hc5)).mono ?_
        rintro e w6 ⟨rfl, hp6, hc6⟩
        go_wp2_with fail
        go_roundg (gk - 1)
        case measure => omega
        case rel => exact ⟨j + 1, _, by go_num, by omega, by omega, .inr rfl, by rw [HK.out.1, HK.out.2, ← Nat.add_assoc]; exact hp6, (hcj.trans hc5).trans hc6⟩
      · obtain rfl : j = its.length := by omega
        have hlast : (node b its ks).ents = pre (its.take its.length) ((ks.take its.length).map Tr.ents) ++ ks[its.length].ents := by
          rw [hent, List.drop_length]
          simp [post]
        have HE : Hid ((node b its ks).ents = pre (its.take its.length) ((ks.take its.length).map Tr.ents) ++ ks[its.length].ents) := hlast
        clear hp0 hld0 he hI hok hs hst hc hej hNj h2j hkid hksp hent hs' hst' hcl hdd ecd hpj hld' hlast
        unfold ptr at A38 HC
        go_wp2_with fail
        refine A38.mono ?_
        rintro e w1 ⟨rfl, rfl⟩
        go_wp2_with fail
        refine HC.mono ?_
        rintro e w5 ⟨rfl, hp5, hc5⟩
        go_wp2_with fail
        refine bodyPost_end (v := .tuple #[]) (by simp [results, Try.results47, go_sem]) rfl ⟨rfl, ?_, hcj.trans hc5⟩
        rw [show Tr.ents (d := d + 1) (b, its, ks) = _ from HE.out]
        exact hp5

theorem walk_all : ∀ d : Nat, WalkSpec d
  | 0 => walk_zero
  | d + 1 => walk_succ d (walk_all d)
end Go.Proofs.Qxb6603401a
