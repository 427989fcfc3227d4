import Derived.Test.Qxb6603401aVisitY
import Derived.Test.Qxb6603401aDepth
namespace Go.Proofs.Qxb6603401a
open Go Go.RowKit Go.Deep
set_option linter.unusedSimpArgs false
set_option linter.unusedVariables false

/-! ### The dump's rows -/
structure Rw where
  n : Nat
  dep : Int
  idx : Int
  cnt : Int
  cc : Int
  leaf : Bool
  key : ByteArray
  va : Option Addr
  vn : Nat
  vc : Nat
def Rw.cells (r : Rw) : List Value := [ptr r.n, .int .i64 r.dep, .int .i64 r.idx, .int .i64 r.cnt, .int .i64 r.cc, .bool r.leaf, .string r.key, .slice r.va r.vn r.vc]
def rflat (rs : List Rw) : List Value := rs.flatMap Rw.cells
theorem rflat_append (a b : List Rw) : rflat (a ++ b) = rflat a ++ rflat b := by simp [rflat]
theorem rflat_one (r : Rw) : rflat [r] = r.cells := by simp [rflat]
theorem rflat_length (rs : List Rw) : (rflat rs).length = rs.length * 8 := by
  induction rs with
  | nil => rfl
  | cons r rs ih => rw [show r :: rs = [r] ++ rs from rfl, rflat_append, List.length_append, List.length_append, rflat_one, ih]; simp [Rw.cells]; omega
theorem rflat_get (rs : List Rw) : ∀ (i : Nat) (r : Rw), rs[i]? = some r → ∀ j, j < 8 → (rflat rs)[i * 8 + j]? = r.cells[j]? := by
  induction rs with
  | nil => intro i r h; simp at h
  | cons x rs ih =>
    intro i r h j hj
    rw [show x :: rs = [x] ++ rs from rfl, rflat_append, rflat_one]
    have hl : x.cells.length = 8 := rfl
    cases i with
    | zero =>
      simp only [List.getElem?_cons_zero, Option.some.injEq] at h
      subst h
      rw [Nat.zero_mul, Nat.zero_add, List.getElem?_append_left (by omega)]
    | succ i =>
      rw [List.getElem?_append_right (by omega), hl, show (i + 1) * 8 + j - 8 = i * 8 + j from by omega]
      exact ih i r (by simpa using h) j hj
def RowsAt (E : Nat) (w : World) (v : Value) (rs : List Rw) : Prop := w.ownsRow E 92 8 v rs.length (rflat rs)
theorem RowsAt.forms {B : Nat} {w : World} {v : Value} {rs : List Rw} (h : RowsAt B w v rs) : (v = .slice none 0 0 ∧ rs = []) ∨ ∃ g cap, v = .slice (some ⟨g, 0, none⟩) rs.length cap ∧ B ≤ g ∧ g < w.heap.size := by
  rcases h.2 with ⟨h1, h2⟩ | ⟨g, cap, cur, h1, h2, h3, _⟩
  · exact .inl ⟨h1, List.length_eq_zero_iff.1 h2⟩
  · exact .inr ⟨g, cap, h1, h2, (Array.getElem?_eq_some_iff.1 h3).1⟩
theorem RowsAt.slice {B : Nat} {w : World} {v : Value} {rs : List Rw} (h : RowsAt B w v rs) : ∃ a n c, v = .slice a n c := by
  rcases h.forms with ⟨rfl, _⟩ | ⟨g, cap, rfl, _⟩
  · exact ⟨_, _, _, rfl⟩
  · exact ⟨_, _, _, rfl⟩
theorem RowsAt.chg {B : Nat} {w w' : World} {v : Value} {rs : List Rw} (h : RowsAt B w v rs) {S : List Nat} (hc : Chg S w w') (hS : ∀ g, v.ownBlock = some g → g ∉ S) : RowsAt B w' v rs := by
  refine ⟨h.1, ?_⟩
  rcases h.2 with h1 | ⟨g, cap, cur, rfl, h2, h3, h4⟩
  · exact .inl h1
  · exact .inr ⟨g, cap, cur, rfl, h2, hc.heap h3 (hS g rfl), h4⟩
theorem RowsAt.typed {E : Nat} {w : World} {o : Value} {rs : List Rw} (h : RowsAt E w o rs) {g : Nat} (hg : g ∈ own o) : E ≤ g ∧ ∃ c, w.heap[g]? = some (.cells c 92 (0, 0)) := by
  rcases h.2 with ⟨rfl, _⟩ | ⟨g', cap, cur, rfl, h2, h3, h4⟩
  · cases hg
  · have : g = g' := by simpa [own, Value.ownBlock] using hg
    subst this
    exact ⟨h2, _, h3⟩
theorem Env.chgR {B E : Nat} {σ : Store} {w w' : World} {o : Value} {rs : List Rw} (h : Env noKeep B σ w) (ho : RowsAt E w o rs) (hc : Chg (own o) w w') : Env noKeep B σ w' :=
  h.aside hc (fun b nd hs x hx hx2 => by
    obtain ⟨c', T, h1, h2⟩ := (h.rep b nd hs).types x hx
    obtain ⟨_, c2, h3⟩ := ho.typed hx2
    rw [h3] at h1
    simp only [Option.some.injEq, Obj.cells.injEq] at h1
    obtain ⟨_, rfl, _⟩ := h1
    rcases h2 with ⟨_, e, _⟩ | ⟨_, e⟩ | ⟨_, e⟩ <;> exact absurd e (by decide)) (fun b o hb _ => by cases hb)
/-- From w on, the row of o has been written, and new blocks; the row of o' is that of o, or new. -/
structure RS (o : Value) (w : World) (o' : Value) (w' : World) : Prop where
  chg : Chg (own o) w w'
  own : ∀ g, o'.ownBlock = some g → o.ownBlock = some g ∨ w.heap.size ≤ g
theorem RS.refl (o : Value) (w : World) : RS o w o w := ⟨Chg.refl _ _, fun g h => .inl h⟩
theorem RS.trans {o o1 o2 : Value} {w w1 w2 : World} (h : RS o w o1 w1) (k : RS o1 w1 o2 w2) : RS o w o2 w2 := by
  refine ⟨⟨k.chg.os.trans h.chg.os, k.chg.tape.trans h.chg.tape, k.chg.output.trans h.chg.output, Nat.le_trans h.chg.size k.chg.size, fun i hi hn => ?_⟩, fun g hg => ?_⟩
  · refine (k.chg.block i (Nat.lt_of_lt_of_le hi h.chg.size) (fun hm => ?_)).trans (h.chg.block i hi hn)
    rcases h.own i (mem_own.1 hm) with h1 | h1
    · exact hn (mem_own.2 h1)
    · omega
  · rcases k.own g hg with h1 | h1
    · exact h.own g h1
    · exact .inr (Nat.le_trans h.chg.size h1)
theorem Try.inf92 : (Try.prog.info? 92).map (fun i => (i.zero, i.size, i.bytes)) = some (some (.agg #[.pointer none, .int .i64 0, .int .i64 0, .int .i64 0, .int .i64 0, .bool false, .string ⟨#[]⟩, .slice none 0 0]), 8, 88) := by kernel_rfl
theorem info92 : ∃ i, Try.prog.info? 92 = some i ∧ i.zero = some (.agg #[.pointer none, .int .i64 0, .int .i64 0, .int .i64 0, .int .i64 0, .bool false, .string ⟨#[]⟩, .slice none 0 0]) ∧ i.size = 8 ∧ i.bytes = 88 := by
  have := Try.inf92
  cases h : Try.prog.info? 92 with
  | none => rw [h] at this; cases this
  | some i =>
    rw [h] at this
    simp only [Option.map_some, Option.some.injEq, Prod.mk.injEq] at this
    exact ⟨i, rfl, this.1, this.2.1, this.2.2⟩
/-- One row more, as the append leaves it. -/
theorem rows_more {E : Nat} {w w1 : World} {v : Value} {rs : List Rw} {r : Rw} {g cap : Nat} {o : Obj}
    (hown : w1.ownsRow E 92 8 (.slice (some ⟨g, 0, none⟩) (rs.length + 1) cap) (rs.length + 1) (rflat rs ++ r.cells)) (hgrow : (w.alloc o).grownBy w1 v.ownBlock) (hat : v.ownBlock = some g ∨ g = w.heap.size + 1) :
    RowsAt E w1 (.slice (some ⟨g, 0, none⟩) (rs.length + 1) cap) (rs ++ [r]) ∧ RS v w (.slice (some ⟨g, 0, none⟩) (rs.length + 1) cap) w1 := by
  refine ⟨?_, ((Chg.refl _ _).alloc _).trans (chg_of_grown hgrow), fun g' hg' => ?_⟩
  · unfold RowsAt
    rw [rflat_append, rflat_one, List.length_append]
    exact hown
  · have e1 : g = g' := by simpa [Value.ownBlock] using hg'
    subst e1
    rcases hat with h1 | h1
    · exact .inl h1
    · exact .inr (by omega)

def headRow (b : Nat) (dep : Int) (n cc : Nat) (lf : Bool) : Rw := ⟨b, dep, -1, n, cc, lf, ⟨#[]⟩, none, 0, 0⟩
def itemRow (b : Nat) (dep : Int) (i : Nat) (x : It) : Rw := ⟨b, dep, i, 0, 0, false, x.key, x.va, x.vn, x.vc⟩
def itemRows (b : Nat) (dep : Int) (its : List It) : List Rw := its.mapIdx (itemRow b dep)
theorem itemRows_take (b : Nat) (dep : Int) (its : List It) (j : Nat) (x : It) (h : its[j]? = some x) : itemRows b dep (its.take (j + 1)) = itemRows b dep (its.take j) ++ [itemRow b dep j x] := by
  obtain ⟨hl, rfl⟩ := List.getElem?_eq_some_iff.1 h
  unfold itemRows
  rw [List.take_succ_eq_append_getElem hl, List.mapIdx_append]
  simp [Nat.min_eq_left (Nat.le_of_lt hl)]

set_option maxHeartbeats 4000000 in
set_option maxRecDepth 100000 in
theorem dump_any (b : Nat) (its : List It) (kids : Option (List Nat)) (lf : Bool) (cc : Nat) (c : Nat → Nat) (R : Nat → List Rw) (dep B E : Nat) (σ : Store) (w : World) (v : Value) (rs : List Rw) (he : Env noKeep B σ w) (hI : σ b = some ⟨its, kids⟩) (hl31 : its.length ≤ 31) (hdep : dep ≤ 64) (hcc : cc ≤ 32)
    (hv : RowsAt E w v rs) (hE : E ≤ w.heap.size) (hn : (rs ++ headRow b dep its.length cc lf :: itemRows b dep its ++ (List.range cc).flatMap R).length ≤ 1048576)
    (H36 : ∀ W, Env noKeep B σ W → Calls Try.prog 36 #[ptr b] W fun e w' => e = .returned (.bool lf) ∧ W = w')
    (H37 : ∀ W, Env noKeep B σ W → Calls Try.prog 37 #[ptr b] W fun e w' => e = .returned (.int .i64 cc) ∧ W = w')
    (H38 : ∀ W j, j < cc → Env noKeep B σ W → Calls Try.prog 38 #[ptr b, .int .i64 (j : Nat)] W fun e w' => e = .returned (ptr (c j)) ∧ W = w')
    (HD : ∀ W j v1 rs1, j < cc → Env noKeep B σ W → RowsAt E W v1 rs1 → E ≤ W.heap.size → (rs1 ++ R j).length ≤ 1048576 → Calls Try.prog 60 #[ptr (c j), .int .i64 ((dep : Nat) + 1), v1] W fun e w' => ∃ v2, e = .returned v2 ∧ RowsAt E w' v2 (rs1 ++ R j) ∧ RS v1 W v2 w') :
    Calls Try.prog 60 #[ptr b, .int .i64 (dep : Nat), v] w fun e w' => ∃ v', e = .returned v' ∧ RowsAt E w' v' (rs ++ headRow b dep its.length cc lf :: itemRows b dep its ++ (List.range cc).flatMap R) ∧ RS v w v' w' := by
  obtain ⟨va, vn, vc, rfl⟩ := hv.slice
  obtain ⟨i0, hi0, hz0, hz1, hz2⟩ := info92
  have hN := he.rep b _ hI
  have A40 := acc40 b its.length w hN.hdr
  have A37 := H37 w he
  have A36 := H36 w he
  have hz := binNil30
  have z1 : (0 : Int) ≤ (dep : Int) := Int.natCast_nonneg _
  have z2 : (dep : Int) ≤ 64 := by omega
  have HH : Hid (Env noKeep B σ w ∧ σ b = some ⟨its, kids⟩ ∧ RowsAt E w (.slice va vn vc) rs ∧ E ≤ w.heap.size) := ⟨he, hI, hv, hE⟩
  have HNN : Hid ((rs ++ headRow b dep its.length cc lf :: itemRows b dep its ++ (List.range cc).flatMap R).length ≤ 1048576) := hn
  have HF : Hid ((∀ W j, j < cc → Env noKeep B σ W → Calls Try.prog 38 #[ptr b, .int .i64 (j : Nat)] W fun e w' => e = .returned (ptr (c j)) ∧ W = w') ∧ (∀ W j v1 rs1, j < cc → Env noKeep B σ W → RowsAt E W v1 rs1 → E ≤ W.heap.size → (rs1 ++ R j).length ≤ 1048576 → Calls Try.prog 60 #[ptr (c j), .int .i64 ((dep : Nat) + 1), v1] W fun e w' => ∃ v2, e = .returned v2 ∧ RowsAt E w' v2 (rs1 ++ R j) ∧ RS v1 W v2 w')) := ⟨H38, HD⟩
  have hrl : rs.length + 1 ≤ 1048576 := by
    have := hn
    simp only [List.length_append, List.length_cons] at this
    omega
  have hb1 := heap_alloc_new w (.cells #[ptr b, .int .i64 (dep : Nat), .int .i64 (-1), .int .i64 (its.length : Nat), .int .i64 (cc : Nat), .bool lf, .string ⟨#[]⟩, .slice none 0 0] 92)
  have ho1 := World.ownsRow.alloc (w := w) hv (.cells #[ptr b, .int .i64 (dep : Nat), .int .i64 (-1), .int .i64 (its.length : Nat), .int .i64 (cc : Nat), .bool lf, .string ⟨#[]⟩, .slice none 0 0] 92)
  clear hN he hI hv hn H36 H37 H38 HD
  unfold ptr at A40 A37 A36 hb1 ho1 ⊢
  go_enter Try.func60, Try.ntmps60
  go_wp2_with fail
  refine A40.mono ?_
  rintro e w1 ⟨rfl, rfl⟩
  go_wp2_with fail
  refine A37.mono ?_
  rintro e w1 ⟨rfl, rfl⟩
  go_wp2_with fail
  refine A36.mono ?_
  rintro e w1 ⟨rfl, rfl⟩
  clear A40 A37 A36
  go_wp2_with (at_builtin; refine wpList_append_lies _ rfl _ _ 56 rfl E 92 i0 _ 8 88 Try.underlying56 hi0 hz0 hz1 hz2 rfl (by decide) _ _ _ rfl ho1 ⟨w.heap.size, 0, none⟩ 1 1 (headRow b dep its.length cc lf).cells rfl rfl (World.news_of_block hb1) ?c1 (by decide) ?c2 ?c3 ?c4 _ rfl ?_)
  case c1 => intro u hu; simp only [Rw.cells, ptr, List.mem_cons, List.not_mem_nil, or_false] at hu; rcases hu with rfl | rfl | rfl | rfl | rfl | rfl | rfl | rfl <;> rfl
  case c2 => unfold maxLen; omega
  case c3 => omega
  case c4 => simp only [World.size_alloc]; omega
  intro g cap w2 hown2 hgrow hat hlt
  have HR2 : Hid _ := rows_more hown2 hgrow hat
  clear hown2 hgrow hat hlt hb1 ho1
  go_wp2_with fail
  go_loopg [2, 9] its.length (fun gg vs i wr => ∃ j : Nat, j ≤ its.length ∧ gg = its.length - j ∧ i = .int .i64 j ∧ RowsAt E wr vs (rs ++ headRow b dep its.length cc lf :: itemRows b dep (its.take j)) ∧ RS (.slice va vn vc) w vs wr)
  case atStart => exact ⟨0, by omega, by omega, rfl, by rw [List.take_zero]; exact HR2.out.1, HR2.out.2⟩
  case round =>
    obtain ⟨j, hj, hgg, rfl, hrw, hrs⟩ := hrel
    have HG : Hid (gk = its.length - j) := hgg
    obtain ⟨ua, un, uc, rfl⟩ := hrw.slice
    have hej := HH.out.1.chgR HH.out.2.2.1 hrs.chg
    have HJ : Hid (RowsAt E wr (.slice ua un uc) (rs ++ headRow b dep its.length cc lf :: itemRows b dep (its.take j)) ∧ RS (.slice va vn vc) w (.slice ua un uc) wr ∧ Env noKeep B σ wr ∧ E ≤ wr.heap.size) := ⟨hrw, hrs, hej, Nat.le_trans HH.out.2.2.2 hrs.chg.size⟩
    have hEj : E ≤ wr.heap.size := HJ.out.2.2.2
    clear hgg HR2 hrs
    have zj : (0 : Int) ≤ (j : Int) := Int.natCast_nonneg _
    by_cases hlt : j < its.length
    · have zj2 : (j : Int) < (its.length : Int) := by omega
      have hNj := hej.rep b _ HH.out.2.1
      obtain ⟨x, hx⟩ : ∃ x, its[j]? = some x := ⟨_, List.getElem?_eq_getElem hlt⟩
      have hxe : its[j] = x := by rw [List.getElem?_eq_getElem hlt] at hx; exact Option.some.inj hx
      have hat := hNj.items.at hlt
      rw [hxe] at hat
      have A61 := acc61 b j its.length x.key wr hNj.hdr hlt hat.1
      have A62 := acc62 b j its.length x.va x.vn x.vc wr hNj.hdr hlt hat.2
      have hrl2 : (rs ++ headRow b dep its.length cc lf :: itemRows b dep (its.take j)).length + 1 ≤ 1048576 := by
        have := HNN.out
        simp only [List.length_append, List.length_cons, itemRows, List.length_mapIdx, List.length_take] at this ⊢
        omega
      have HTK : Hid (rs ++ headRow b dep its.length cc lf :: itemRows b dep (its.take j) ++ [itemRow b dep j x] = rs ++ headRow b dep its.length cc lf :: itemRows b dep (its.take (j + 1))) := by
        show _ = _
        rw [itemRows_take b dep its j x hx, List.append_assoc, List.cons_append]
      generalize rs ++ headRow b dep its.length cc lf :: itemRows b dep (its.take j) = rj at *
      obtain ⟨xk, xa, xn, xc⟩ := x
      simp only at A61 A62
      have hb1 := heap_alloc_new wr (.cells #[ptr b, .int .i64 (dep : Nat), .int .i64 (j : Nat), .int .i64 0, .int .i64 0, .bool false, .string xk, .slice xa xn xc] 92)
      have ho1 := World.ownsRow.alloc (w := wr) hrw (.cells #[ptr b, .int .i64 (dep : Nat), .int .i64 (j : Nat), .int .i64 0, .int .i64 0, .bool false, .string xk, .slice xa xn xc] 92)
      clear hNj hx hxe hat hrw hej
      unfold ptr at A61 A62 hb1 ho1
      go_wp2_with fail
      refine A61.mono ?_
      rintro e w1 ⟨rfl, rfl⟩
      go_wp2_with fail
      refine A62.mono ?_
      rintro e w1 ⟨rfl, rfl⟩
      clear A61 A62
      go_wp2_with (at_builtin; refine wpList_append_lies _ rfl _ _ 56 rfl E 92 i0 _ 8 88 Try.underlying56 hi0 hz0 hz1 hz2 rfl (by decide) _ _ _ rfl ho1 ⟨wr.heap.size, 0, none⟩ 1 1 (itemRow b dep j ⟨xk, xa, xn, xc⟩).cells rfl rfl (World.news_of_block hb1) ?c1 (by decide) ?c2 ?c3 ?c4 _ rfl ?_)
      case c1 => intro u hu; simp only [Rw.cells, ptr, List.mem_cons, List.not_mem_nil, or_false] at hu; rcases hu with rfl | rfl | rfl | rfl | rfl | rfl | rfl | rfl <;> rfl
      case c2 => unfold maxLen; omega
      case c3 => omega
      case c4 => simp only [World.size_alloc]; omega
      intro g2 cap2 w4 hown2 hgrow hat hlt2
      have hrm := rows_more (r := itemRow b dep j ⟨xk, xa, xn, xc⟩) hown2 hgrow hat
      rw [HTK.out] at hrm
      have HR4 : Hid _ := hrm
      clear hown2 hgrow hat hlt2 hb1 ho1 hrm
      go_wp2_with fail
      go_roundg (its.length - (j + 1))
      case measure => have := HG.out; omega
      case rel => exact ⟨j + 1, by omega, rfl, by go_num, HR4.out.1, HJ.out.2.1.trans HR4.out.2⟩
    · obtain rfl : j = its.length := by omega
      have HJ2 : Hid (RowsAt E wr (.slice ua un uc) (rs ++ headRow b dep its.length cc lf :: itemRows b dep its)) := by
        have := HJ.out.1
        rw [List.take_length] at this
        exact this
      clear hrw hej hlt HG
      have HJR : Hid (RS (.slice va vn vc) w (.slice ua un uc) wr) := HJ.out.2.1
      clear HJ hEj
      go_wp2_with fail
      go_loopg [2, 10] cc (fun gg vs i wr => ∃ j : Nat, j ≤ cc ∧ gg = cc - j ∧ i = .int .i64 j ∧ RowsAt E wr vs (rs ++ headRow b dep its.length cc lf :: itemRows b dep its ++ (List.range j).flatMap R) ∧ RS (.slice va vn vc) w vs wr)
      case atStart => exact ⟨0, by omega, by omega, rfl, by simpa using HJ2.out, HJR.out⟩
      case round =>
        obtain ⟨j, hj, hgg, rfl, hrw, hrs⟩ := hrel
        have HG : Hid (gk = cc - j) := hgg
        obtain ⟨ua, un, uc, rfl⟩ := hrw.slice
        have hej := HH.out.1.chgR HH.out.2.2.1 hrs.chg
        have HJ : Hid (RowsAt E wr (.slice ua un uc) (rs ++ headRow b dep its.length cc lf :: itemRows b dep its ++ (List.range j).flatMap R) ∧ RS (.slice va vn vc) w (.slice ua un uc) wr) := ⟨hrw, hrs⟩
        have hEj : E ≤ wr.heap.size := Nat.le_trans HH.out.2.2.2 hrs.chg.size
        clear hgg HJ2 HJR hrs
        have zj : (0 : Int) ≤ (j : Int) := Int.natCast_nonneg _
        by_cases hlt : j < cc
        · have zj2 : (j : Int) < (cc : Int) := by omega
          have A38 := HF.out.1 wr j hlt hej
          have hsuc : (List.range (j + 1)).flatMap R = (List.range j).flatMap R ++ R j := by rw [List.range_succ, List.flatMap_append]; simp
          have hfl : (rs ++ headRow b dep its.length cc lf :: itemRows b dep its ++ (List.range j).flatMap R ++ R j).length ≤ 1048576 := by
            have h1 := HNN.out
            have h2 : (List.range cc).flatMap R = (List.range (j + 1)).flatMap R ++ ((List.range cc).drop (j + 1)).flatMap R := by
              rw [← List.flatMap_append]
              congr 1
              have := List.take_append_drop (j + 1) (List.range cc)
              rw [List.take_range, Nat.min_eq_left (by omega)] at this
              exact this.symm
            rw [h2, hsuc] at h1
            simp only [List.length_append, List.length_cons] at h1 ⊢
            omega
          have A60 := HF.out.2 wr j _ _ hlt hej hrw hEj hfl
          rw [List.append_assoc, ← hsuc] at A60
          clear hsuc hfl hej hrw
          unfold ptr at A38 A60
          go_wp2_with fail
          refine A38.mono ?_
          rintro e w1 ⟨rfl, rfl⟩
          clear A38
          go_wp2_with fail
          refine A60.mono ?_
          rintro e w5 ⟨v2, rfl, hrw2, hrs2⟩
          have HR5 : Hid (RowsAt E w5 v2 (rs ++ headRow b dep its.length cc lf :: itemRows b dep its ++ (List.range (j + 1)).flatMap R) ∧ RS (.slice ua un uc) wr v2 w5) := ⟨hrw2, hrs2⟩
          clear hrw2 hrs2 A60
          go_wp2_with fail
          go_roundg (cc - (j + 1))
          case measure => have := HG.out; omega
          case rel => exact ⟨j + 1, by omega, rfl, by go_num, HR5.out.1, HJ.out.2.trans HR5.out.2⟩
        · obtain rfl : j = cc := by omega
          clear hrw hej
          go_wp2_with fail
          go_ret
          exact ⟨_, rfl, HJ.out.1, HJ.out.2⟩
end Go.Proofs.Qxb6603401a
