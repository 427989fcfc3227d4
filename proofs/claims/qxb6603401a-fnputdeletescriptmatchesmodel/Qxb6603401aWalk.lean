import Derived.Test.Qxb6603401aVisit
import Derived.Test.Qxb6603401aPut
namespace Go.Proofs.Qxb6603401a
open Go Go.RowKit

def lastK (st : Option ByteArray) (es : List It) : Option ByteArray := match es.getLast? with | some e => some e.key | none => st
theorem lastK_nil (st : Option ByteArray) : lastK st [] = st := rfl
theorem lastK_snoc (st : Option ByteArray) (es : List It) (x : It) : lastK st (es ++ [x]) = some x.key := by simp [lastK]
theorem lastK_append (st : Option ByteArray) (a b : List It) : lastK st (a ++ b) = lastK (lastK st a) b := by
  unfold lastK
  cases hb : b.getLast? with
  | none =>
    have : b = [] := by simpa using hb
    subst this; simp
  | some e => simp [List.getLast?_append, hb]
theorem lastK_lt {st : Option ByteArray} {P E : List It} (hs : Sorted (P ++ E)) (h : ∀ l, st = some l → ∀ e ∈ P ++ E, kc l e.key < 0) : ∀ l, lastK st P = some l → ∀ e ∈ E, kc l e.key < 0 := by
  intro l hl e he
  unfold lastK at hl
  cases hP : P.getLast? with
  | none => rw [hP] at hl; exact h l hl e (List.mem_append.2 (.inr he))
  | some x =>
    rw [hP] at hl
    cases hl
    exact hs.cross (List.mem_of_getLast? hP) he

abbrev noKeep : Keep := fun _ => none
theorem Env.bare {F : Keep} {B : Nat} {σ : Store} {w : World} (h : Env F B σ w) : Env noKeep B σ w := h.keepLess (fun _ _ hb => by cases hb)
/-- A block that is no node's has turned. -/
theorem Env.chgP {B : Nat} {σ : Store} {w w' : World} (h : Env noKeep B σ w) {p : Nat} {c : Array Value} {f : Nat × Nat} (hp : w.heap[p]? = some (.cells c 39 f)) (hc : Chg [p] w w') : Env noKeep B σ w' :=
  h.aside hc (fun b nd hs x hx hx2 => by
    simp only [List.mem_singleton] at hx2
    subst hx2
    obtain ⟨c', T, h1, h2⟩ := (h.rep b nd hs).types x hx
    rw [hp] at h1
    simp only [Option.some.injEq, Obj.cells.injEq] at h1
    obtain ⟨_, rfl, _⟩ := h1
    rcases h2 with ⟨_, e, _⟩ | ⟨_, e⟩ | ⟨_, e⟩ <;> exact absurd e (by decide)) (fun b o hb _ => by cases hb)

set_option maxHeartbeats 4000000 in
set_option maxRecDepth 100000 in
theorem walk_leaf (b : Nat) (its : List It) (m : Nat) (root : Bool) (dep B : Nat) (σ : Store) (w : World) (p : Nat) (ld : Int) (st : Option ByteArray) (cnt : Nat) (out : Value) (he : Env noKeep B σ w) (hI : (leaf b its).In σ) (hok : (leaf b its).Ok m) (hr : root = false → 15 ≤ m) (hdep : dep ≤ 64)
    (hld : ld < 0 ∨ ld = dep) (hs : Sorted its) (hst : ∀ l, st = some l → ∀ e ∈ its, kc l e.key < 0) (hp : w.heap[p]? = some (wsObj ld st cnt false out)) (hc : cnt + its.length < 4611686018427387904) :
    Calls Try.prog 47 #[ptr b, .int .i64 (dep : Nat), .bool root, .pointer (some ⟨p, 0, none⟩)] w fun e w' => e = .returned (.tuple #[]) ∧ w'.heap[p]? = some (wsObj dep (lastK st its) (cnt + its.length) false out) ∧ Chg [p] w w' := by
  have hN := he.rep b _ hI
  have h1 : w.cell? ⟨b + 1, 1, none⟩ = some (.slice (some ⟨b, 0, none⟩) its.length 31) := hN.hdr
  have h2 : w.cell? ⟨b + 1, 2, none⟩ = some (.slice none 0 0) := hN.khdr
  have hl31 : its.length ≤ 31 := hok.2
  have hlm : m ≤ its.length := hok.1
  have A40 := acc40 b its.length w h1
  have A36 := acc36 b none 0 0 w h2
  simp only [Option.isNone] at A36
  have hz := binNil30
  have z1 : (0 : Int) ≤ (dep : Int) := Int.natCast_nonneg _
  have z2 : (dep : Int) ≤ 64 := by omega
  have z3 : (its.length : Int) ≤ 31 := by omega
  have z4 : root = false → (15 : Int) ≤ (its.length : Int) := fun h => by have := hr h; omega
  have c1 : w.cell? ⟨p, 1, none⟩ = some (.int .i64 ld) := (Lib.cell_of_heap hp 1).trans rfl
  have f1 : w.frozen? ⟨p, 1, none⟩ = false := by simp [World.frozen?, hp, wsObj]
  have hpl : p < w.heap.size := World.block_lt_of_cell? w _ c1
  have HP : Hid (w.heap[p]? = some (wsObj ld st cnt false out) ∧ Env noKeep B σ w ∧ (leaf b its).In σ ∧ Sorted its ∧ (∀ l, st = some l → ∀ e ∈ its, kc l e.key < 0) ∧ cnt + its.length < 4611686018427387904) := ⟨hp, he, hI, hs, hst, hc⟩
  have HW : Hid (∀ W, W.heap[p]? = some (wsObj dep st cnt false out) → Chg [p] w W → True) := fun _ _ _ => trivial
  clear hN he hI hok hs hst hp hr hc HW h1 h2
  unfold ptr at *
  cases root <;> rcases hld with hld | hld
  · have z5 := z4 rfl
    clear z4
    go_enter Try.func47, Try.ntmps47
    go_wp2_with fail
    refine A40.mono ?_
    rintro e w1 ⟨rfl, rfl⟩
    go_wp2_with fail
    refine A36.mono ?_
    rintro e w1 ⟨rfl, rfl⟩
    go_wp2_with fail
    have HS : Hid ((w.setCell ⟨p, 1, none⟩ (.int .i64 (dep : Nat))).heap[p]? = some (wsObj dep (lastK st (its.take 0)) (cnt + 0) false out) ∧ Chg [p] w (w.setCell ⟨p, 1, none⟩ (.int .i64 (dep : Nat)))) := by
      refine ⟨?_, (Chg.refl _ _).setCell (.inl (by simp)) _⟩
      rw [setCell_heap HP.out.1]
      rfl
    generalize w.setCell ⟨p, 1, none⟩ (.int .i64 (dep : Nat)) = w0 at *
    go_loopg [9] (its.length + 1) (fun g x wr => ∃ j : Nat, x = .int .i64 j ∧ j ≤ its.length ∧ its.length - j < g ∧ wr.heap[p]? = some (wsObj dep (lastK st (its.take j)) (cnt + j) false out) ∧ Chg [p] w wr)
    case atStart => exact ⟨0, rfl, Nat.zero_le _, by omega, HS.out.1, HS.out.2⟩
    case round =>
      obtain ⟨j, rfl, hj, hg, hpj, hcj⟩ := hrel
      have zj : (0 : Int) ≤ (j : Int) := Int.natCast_nonneg _
      by_cases hlt : j < its.length
      · have zj2 : (j : Int) < (its.length : Int) := by omega
        obtain ⟨hp0, he, hI, hs, hst, hc⟩ := HP.out
        have hej := he.chgP hp0 hcj
        have hNj := hej.rep b _ hI
        have hat := (hNj.items.at hlt).1
        have hsp : its = its.take j ++ its[j] :: its.drop (j + 1) := by
          rw [List.getElem_cons_drop, List.take_append_drop]
        have hlst : ∀ l, lastK st (its.take j) = some l → kc l its[j].key < 0 := fun l hl => lastK_lt (E := its[j] :: its.drop (j + 1)) (by rw [← hsp]; exact hs) (by rw [← hsp]; exact hst) l hl _ List.mem_cons_self
        have HV := visit_no p b j its.length its[j].key wr dep _ (cnt + j) out hpj hlst (by omega) hNj.hdr hlt hat
        have htk : its.take (j + 1) = its.take j ++ [its[j]] := by rw [List.take_succ_eq_append_getElem hlt]
        have HK : Hid (lastK st (its.take (j + 1)) = some its[j].key) := by
          show _ = _
          rw [htk, lastK_snoc]
        clear hp0 he hI hs hst hc hej hNj hat hsp hlst htk
        unfold ptr at HV
        go_wp2_with fail
        refine HV.mono ?_
        rintro e w6 ⟨rfl, hp6, hc6⟩
        go_wp2_with fail
        go_roundg (gk - 1)
        case measure => omega
        case rel => exact ⟨j + 1, by go_num, by omega, by omega, by rw [HK.out]; exact hp6, hcj.trans hc6⟩
      · obtain rfl : j = its.length := by omega
        go_wp2_with fail
        refine bodyPost_ret (v := .tuple #[]) (by simp [results, Try.results47, go_sem]) rfl ⟨rfl, ?_, hcj⟩
        rw [List.take_length] at hpj
        exact hpj
  · subst hld
    have z5 := z4 rfl
    clear z4
    go_enter Try.func47, Try.ntmps47
    go_wp2_with fail
    refine A40.mono ?_
    rintro e w1 ⟨rfl, rfl⟩
    go_wp2_with fail
    refine A36.mono ?_
    rintro e w1 ⟨rfl, rfl⟩
    go_wp2_with fail
    have HS : Hid (w.heap[p]? = some (wsObj dep (lastK st (its.take 0)) (cnt + 0) false out) ∧ Chg [p] w w) := ⟨HP.out.1, Chg.refl _ _⟩
    go_loopg [9] (its.length + 1) (fun g x wr => ∃ j : Nat, x = .int .i64 j ∧ j ≤ its.length ∧ its.length - j < g ∧ wr.heap[p]? = some (wsObj dep (lastK st (its.take j)) (cnt + j) false out) ∧ Chg [p] w wr)
    case atStart => exact ⟨0, rfl, Nat.zero_le _, by omega, HS.out.1, HS.out.2⟩
    case round =>
      obtain ⟨j, rfl, hj, hg, hpj, hcj⟩ := hrel
      have zj : (0 : Int) ≤ (j : Int) := Int.natCast_nonneg _
      by_cases hlt : j < its.length
      · have zj2 : (j : Int) < (its.length : Int) := by omega
        obtain ⟨hp0, he, hI, hs, hst, hc⟩ := HP.out
        have hej := he.chgP hp0 hcj
        have hNj := hej.rep b _ hI
        have hat := (hNj.items.at hlt).1
        have hsp : its = its.take j ++ its[j] :: its.drop (j + 1) := by
          rw [List.getElem_cons_drop, List.take_append_drop]
        have hlst : ∀ l, lastK st (its.take j) = some l → kc l its[j].key < 0 := fun l hl => lastK_lt (E := its[j] :: its.drop (j + 1)) (by rw [← hsp]; exact hs) (by rw [← hsp]; exact hst) l hl _ List.mem_cons_self
        have HV := visit_no p b j its.length its[j].key wr dep _ (cnt + j) out hpj hlst (by omega) hNj.hdr hlt hat
        have htk : its.take (j + 1) = its.take j ++ [its[j]] := by rw [List.take_succ_eq_append_getElem hlt]
        have HK : Hid (lastK st (its.take (j + 1)) = some its[j].key) := by
          show _ = _
          rw [htk, lastK_snoc]
        clear hp0 he hI hs hst hc hej hNj hat hsp hlst htk
        unfold ptr at HV
        go_wp2_with fail
        refine HV.mono ?_
        rintro e w6 ⟨rfl, hp6, hc6⟩
        go_wp2_with fail
        go_roundg (gk - 1)
        case measure => omega
        case rel => exact ⟨j + 1, by go_num, by omega, by omega, by rw [HK.out]; exact hp6, hcj.trans hc6⟩
      · obtain rfl : j = its.length := by omega
        go_wp2_with fail
        refine bodyPost_ret (v := .tuple #[]) (by simp [results, Try.results47, go_sem]) rfl ⟨rfl, ?_, hcj⟩
        rw [List.take_length] at hpj
        exact hpj
  · clear z4
    go_enter Try.func47, Try.ntmps47
    go_wp2_with fail
    refine A40.mono ?_
    rintro e w1 ⟨rfl, rfl⟩
    go_wp2_with fail
    refine A36.mono ?_
    rintro e w1 ⟨rfl, rfl⟩
    go_wp2_with fail
    have HS : Hid ((w.setCell ⟨p, 1, none⟩ (.int .i64 (dep : Nat))).heap[p]? = some (wsObj dep (lastK st (its.take 0)) (cnt + 0) false out) ∧ Chg [p] w (w.setCell ⟨p, 1, none⟩ (.int .i64 (dep : Nat)))) := by
      refine ⟨?_, (Chg.refl _ _).setCell (.inl (by simp)) _⟩
      rw [setCell_heap HP.out.1]
      rfl
    generalize w.setCell ⟨p, 1, none⟩ (.int .i64 (dep : Nat)) = w0 at *
    go_loopg [9] (its.length + 1) (fun g x wr => ∃ j : Nat, x = .int .i64 j ∧ j ≤ its.length ∧ its.length - j < g ∧ wr.heap[p]? = some (wsObj dep (lastK st (its.take j)) (cnt + j) false out) ∧ Chg [p] w wr)
    case atStart => exact ⟨0, rfl, Nat.zero_le _, by omega, HS.out.1, HS.out.2⟩
    case round =>
      obtain ⟨j, rfl, hj, hg, hpj, hcj⟩ := hrel
      have zj : (0 : Int) ≤ (j : Int) := Int.natCast_nonneg _
      by_cases hlt : j < its.length
      · have zj2 : (j : Int) < (its.length : Int) := by omega
        obtain ⟨hp0, he, hI, hs, hst, hc⟩ := HP.out
        have hej := he.chgP hp0 hcj
        have hNj := hej.rep b _ hI
        have hat := (hNj.items.at hlt).1
        have hsp : its = its.take j ++ its[j] :: its.drop (j + 1) := by
          rw [List.getElem_cons_drop, List.take_append_drop]
        have hlst : ∀ l, lastK st (its.take j) = some l → kc l its[j].key < 0 := fun l hl => lastK_lt (E := its[j] :: its.drop (j + 1)) (by rw [← hsp]; exact hs) (by rw [← hsp]; exact hst) l hl _ List.mem_cons_self
        have HV := visit_no p b j its.length its[j].key wr dep _ (cnt + j) out hpj hlst (by omega) hNj.hdr hlt hat
        have htk : its.take (j + 1) = its.take j ++ [its[j]] := by rw [List.take_succ_eq_append_getElem hlt]
        have HK : Hid (lastK st (its.take (j + 1)) = some its[j].key) := by
          show _ = _
          rw [htk, lastK_snoc]
        clear hp0 he hI hs hst hc hej hNj hat hsp hlst htk
        unfold ptr at HV
        go_wp2_with fail
        refine HV.mono ?_
        rintro e w6 ⟨rfl, hp6, hc6⟩
        go_wp2_with fail
        go_roundg (gk - 1)
        case measure => omega
        case rel => exact ⟨j + 1, by go_num, by omega, by omega, by rw [HK.out]; exact hp6, hcj.trans hc6⟩
      · obtain rfl : j = its.length := by omega
        go_wp2_with fail
        refine bodyPost_ret (v := .tuple #[]) (by simp [results, Try.results47, go_sem]) rfl ⟨rfl, ?_, hcj⟩
        rw [List.take_length] at hpj
        exact hpj
  · subst hld
    clear z4
    go_enter Try.func47, Try.ntmps47
    go_wp2_with fail
    refine A40.mono ?_
    rintro e w1 ⟨rfl, rfl⟩
    go_wp2_with fail
    refine A36.mono ?_
    rintro e w1 ⟨rfl, rfl⟩
    go_wp2_with fail
    have HS : Hid (w.heap[p]? = some (wsObj dep (lastK st (its.take 0)) (cnt + 0) false out) ∧ Chg [p] w w) := ⟨HP.out.1, Chg.refl _ _⟩
    go_loopg [9] (its.length + 1) (fun g x wr => ∃ j : Nat, x = .int .i64 j ∧ j ≤ its.length ∧ its.length - j < g ∧ wr.heap[p]? = some (wsObj dep (lastK st (its.take j)) (cnt + j) false out) ∧ Chg [p] w wr)
    case atStart => exact ⟨0, rfl, Nat.zero_le _, by omega, HS.out.1, HS.out.2⟩
    case round =>
      obtain ⟨j, rfl, hj, hg, hpj, hcj⟩ := hrel
      have zj : (0 : Int) ≤ (j : Int) := Int.natCast_nonneg _
      by_cases hlt : j < its.length
      · have zj2 : (j : Int) < (its.length : Int) := by omega
        obtain ⟨hp0, he, hI, hs, hst, hc⟩ := HP.out
        have hej := he.chgP hp0 hcj
        have hNj := hej.rep b _ hI
        have hat := (hNj.items.at hlt).1
        have hsp : its = its.take j ++ its[j] :: its.drop (j + 1) := by
          rw [List.getElem_cons_drop, List.take_append_drop]
        have hlst : ∀ l, lastK st (its.take j) = some l → kc l its[j].key < 0 := fun l hl => lastK_lt (E := its[j] :: its.drop (j + 1)) (by rw [← hsp]; exact hs) (by rw [← hsp]; exact hst) l hl _ List.mem_cons_self
        have HV := visit_no p b j its.length its[j].key wr dep _ (cnt + j) out hpj hlst (by omega) hNj.hdr hlt hat
        have htk : its.take (j + 1) = its.take j ++ [its[j]] := by rw [List.take_succ_eq_append_getElem hlt]
        have HK : Hid (lastK st (its.take (j + 1)) = some its[j].key) := by
          show _ = _
          rw [htk, lastK_snoc]
        clear hp0 he hI hs hst hc hej hNj hat hsp hlst htk
        unfold ptr at HV
        go_wp2_with fail
        refine HV.mono ?_
        rintro e w6 ⟨rfl, hp6, hc6⟩
        go_wp2_with fail
        go_roundg (gk - 1)
        case measure => omega
        case rel => exact ⟨j + 1, by go_num, by omega, by omega, by rw [HK.out]; exact hp6, hcj.trans hc6⟩
      · obtain rfl : j = its.length := by omega
        go_wp2_with fail
        refine bodyPost_ret (v := .tuple #[]) (by simp [results, Try.results47, go_sem]) rfl ⟨rfl, ?_, hcj⟩
        rw [List.take_length] at hpj
        exact hpj
end Go.Proofs.Qxb6603401a
