import Derived.Test.Qxb6603401aScr
import Derived.Deep.AppendLies
namespace Go.Proofs.Qxb6603401a
open Go Go.RowKit Go.Deep
set_option linter.unusedSimpArgs false
set_option linter.unusedVariables false

/-! ### The model's list of entries, and its slice -/
def EsAt (B : Nat) (w : World) (v : Value) (ml : List It) : Prop := w.ownsRow B 70 2 v ml.length (flat ml)
def Dist (ml : List It) : Prop := ml.Pairwise fun a b => a.key ≠ b.key
def own (v : Value) : List Nat := v.ownBlock.toList

theorem flat_set : ∀ (ml : List It) (i : Nat) (x : It), i < ml.length → flat (ml.set i x) = ((flat ml).set (i * 2) (.string x.key)).set (i * 2 + 1) x.val
  | [], i, x, h => by simp at h
  | y :: ml, 0, x, h => by simp [flat_cons]
  | y :: ml, i + 1, x, h => by
    rw [List.set_cons_succ, flat_cons, flat_cons, flat_set ml i x (by simpa using h), show (i + 1) * 2 = i * 2 + 1 + 1 from by omega]
    simp only [List.set_cons_succ]
theorem flat_set_val (ml : List It) (i : Nat) (x : It) (h : i < ml.length) (hk : ml[i].key = x.key) : flat (ml.set i x) = (flat ml).set (i * 2 + 1) x.val := by
  rw [flat_set ml i x h]
  congr 1
  have := (flat_get ml i h).1
  rw [hk] at this
  obtain ⟨hl, he⟩ := List.getElem?_eq_some_iff.1 this
  rw [← he, List.set_getElem_self]

theorem EsAt.forms {B : Nat} {w : World} {v : Value} {ml : List It} (h : EsAt B w v ml) : (v = .slice none 0 0 ∧ ml = []) ∨ ∃ g cap, v = .slice (some ⟨g, 0, none⟩) ml.length cap ∧ B ≤ g ∧ g < w.heap.size := by
  rcases h.2 with ⟨h1, h2⟩ | ⟨g, cap, cur, h1, h2, h3, _⟩
  · exact .inl ⟨h1, List.length_eq_zero_iff.1 h2⟩
  · exact .inr ⟨g, cap, h1, h2, (Array.getElem?_eq_some_iff.1 h3).1⟩
theorem EsAt.cellK {B : Nat} {w : World} {g cap : Nat} {ml : List It} (h : EsAt B w (.slice (some ⟨g, 0, none⟩) ml.length cap) ml) (i : Nat) (hi : i < ml.length) : w.cell? ⟨g, i * 2, none⟩ = some (.string ml[i].key) :=
  (World.ownsRow.cellAt h (i * 2) (by omega)).trans (flat_get ml i hi).1
theorem EsAt.cellV {B : Nat} {w : World} {g cap : Nat} {ml : List It} (h : EsAt B w (.slice (some ⟨g, 0, none⟩) ml.length cap) ml) (i : Nat) (hi : i < ml.length) : w.cell? ⟨g, i * 2 + 1, none⟩ = some ml[i].val :=
  (World.ownsRow.cellAt h (i * 2 + 1) (by omega)).trans (flat_get ml i hi).2
theorem EsAt.chg {B : Nat} {w w' : World} {v : Value} {ml : List It} (h : EsAt B w v ml) {S : List Nat} (hc : Chg S w w') (hS : ∀ g, v.ownBlock = some g → g ∉ S) : EsAt B w' v ml := by
  refine ⟨h.1, ?_⟩
  rcases h.2 with h1 | ⟨g, cap, cur, rfl, h2, h3, h4⟩
  · exact .inl h1
  · exact .inr ⟨g, cap, cur, rfl, h2, hc.heap h3 (hS g rfl), h4⟩
theorem chg_of_grown {w w' : World} {v : Value} (h : w.grownBy w' v.ownBlock) : Chg (own v) w w' :=
  ⟨h.os, h.tape, h.output, h.size, fun k hk hn => h.block k hk (fun e => hn (by unfold own; rw [← e]; simp))⟩

theorem EsAt.cellK' {B : Nat} {w : World} {g n cap : Nat} {ml : List It} (h : EsAt B w (.slice (some ⟨g, 0, none⟩) n cap) ml) (hn : ml.length = n) {i : Nat} {x : It} (hi : ml[i]? = some x) : w.cell? ⟨g, i * 2, none⟩ = some (.string x.key) := by
  subst hn
  obtain ⟨hl, rfl⟩ := List.getElem?_eq_some_iff.1 hi
  exact h.cellK i hl
theorem EsAt.cellV' {B : Nat} {w : World} {g n cap : Nat} {ml : List It} (h : EsAt B w (.slice (some ⟨g, 0, none⟩) n cap) ml) (hn : ml.length = n) {i : Nat} {x : It} (hi : ml[i]? = some x) : w.cell? ⟨g, i * 2 + 1, none⟩ = some (.slice x.va x.vn x.vc) := by
  subst hn
  obtain ⟨hl, rfl⟩ := List.getElem?_eq_some_iff.1 hi
  exact h.cellV i hl

set_option maxHeartbeats 400000 in
theorem model_find {B : Nat} {v : Value} {ml : List It} {w : World} (key : ByteArray) (h : EsAt B w v ml) (hn : ml.length ≤ 1048576) :
    Calls Try.prog 30 #[v, .string key] w fun e w' => ((e = .returned (.int .i64 (-1)) ∧ ∀ x ∈ ml, x.key ≠ key) ∨ ∃ (i : Nat) (x : It), e = .returned (.int .i64 i) ∧ ml[i]? = some x ∧ x.key = key) ∧ w = w' := by
  rcases h.forms with ⟨rfl, rfl⟩ | ⟨g, cap, rfl, hB, hg⟩
  · go_enter Try.func30, Try.ntmps30
    go_wp2
    refine wp_loop_rounds 1 ?_
    rw [rounds_succ]
    go_wp2
    go_ret
    exact ⟨.inl ⟨rfl, fun x hx => by simp at hx⟩, rfl⟩
  · have HC : Hid (∀ i x, ml[i]? = some x → w.cell? ⟨g, i * 2, none⟩ = some (.string x.key)) := fun i x hi => h.cellK' rfl hi
    clear h
    generalize hnn : ml.length = n at *
    have HN : Hid (ml.length = n) := hnn
    clear hnn
    go_enter Try.func30, Try.ntmps30
    go_wp2
    go_loopg [5] n (fun gg i wr => ∃ k : Nat, k ≤ n ∧ gg = n - k ∧ i = .int .i64 k ∧ (∀ j x, ml[j]? = some x → j < k → x.key ≠ key) ∧ w = wr)
    case atStart => exact ⟨0, by omega, by omega, rfl, fun j x hj h => by omega, rfl⟩
    case round =>
      obtain ⟨k, hk, hgg, rfl, hal, rfl⟩ := hrel
      have HG : Hid (gk = n - k) := hgg
      have HA : Hid (∀ j x, ml[j]? = some x → j < k → x.key ≠ key) := hal
      clear hgg hal
      by_cases hlt : k < n
      · obtain ⟨x, hx⟩ : ∃ x, ml[k]? = some x := ⟨_, List.getElem?_eq_getElem (by rw [HN.out]; exact hlt)⟩
        have h1 := HC.out k x hx
        have HX : Hid (ml[k]? = some x) := hx
        clear hx
        by_cases he : x.key = key
        · have HE : Hid (x.key = key) := he
          have hb : (x.key.toList == key.toList) = true := by rw [eq_kc]; simp [he]
          clear he
          go_wp2
          go_ret
          exact ⟨.inr ⟨k, x, rfl, HX.out, HE.out⟩, rfl⟩
        · have HE : Hid (x.key ≠ key) := he
          have hb : (x.key.toList == key.toList) = false := by rw [eq_kc]; simp [he]
          clear he
          go_wp2
          go_roundg (n - (k + 1))
          case measure => have := HG.out; omega
          case rel =>
            refine ⟨k + 1, by omega, rfl, by go_num, fun j y hj h => ?_, rfl⟩
            by_cases e : j = k
            · subst e
              have := HX.out
              rw [this] at hj
              cases hj
              exact HE.out
            · exact HA.out j y hj (by omega)
      · obtain rfl : k = n := by omega
        go_wp2
        go_ret
        exact ⟨.inl ⟨rfl, fun x hx => by obtain ⟨j, hj, rfl⟩ := List.mem_iff_getElem.1 hx; exact HA.out j _ (List.getElem?_eq_getElem hj) (by rw [← HN.out]; exact hj)⟩, rfl⟩

theorem Try.inf70 : (Try.prog.info? 70).map (fun i => (i.zero, i.size, i.bytes)) = some (some (.agg #[.string ⟨#[]⟩, .slice none 0 0]), 2, 40) := by kernel_rfl
theorem info70 : ∃ i, Try.prog.info? 70 = some i ∧ i.zero = some (.agg #[.string ⟨#[]⟩, .slice none 0 0]) ∧ i.size = 2 ∧ i.bytes = 40 := by
  have := Try.inf70
  cases h : Try.prog.info? 70 with
  | none => rw [h] at this; cases this
  | some i =>
    rw [h] at this
    simp only [Option.map_some, Option.some.injEq, Prod.mk.injEq] at this
    exact ⟨i, rfl, this.1, this.2.1, this.2.2⟩

/-- What modelPut makes of the list. -/
structure Putted (x : It) (ml ml' : List It) : Prop where
  mem : ∀ e, e ∈ ml' ↔ e = x ∨ (e ∈ ml ∧ e.key ≠ x.key)
  dist : Dist ml'
  len : ml'.length ≤ ml.length + 1

theorem dist_at {ml : List It} (hd : Dist ml) {i j : Nat} {x y : It} (hi : ml[i]? = some x) (hj : ml[j]? = some y) (hk : x.key = y.key) : i = j := by
  obtain ⟨h1, rfl⟩ := List.getElem?_eq_some_iff.1 hi
  obtain ⟨h2, rfl⟩ := List.getElem?_eq_some_iff.1 hj
  rcases Nat.lt_trichotomy i j with h | h | h
  · exact absurd hk ((List.pairwise_iff_getElem.1 hd) i j h1 h2 h)
  · exact h
  · exact absurd hk.symm ((List.pairwise_iff_getElem.1 hd) j i h2 h1 h)
theorem putted_new {x : It} {ml : List It} (hd : Dist ml) (h : ∀ e ∈ ml, e.key ≠ x.key) : Putted x ml (ml ++ [x]) := by
  refine ⟨fun e => ?_, ?_, by simp⟩
  · constructor
    · intro he
      rcases List.mem_append.1 he with he | he
      · exact .inr ⟨he, h e he⟩
      · exact .inl (by simpa using he)
    · rintro (rfl | ⟨he, _⟩)
      · simp
      · exact List.mem_append_left _ he
  · exact List.pairwise_append.2 ⟨hd, by simp, fun a ha b hb => by simp at hb; subst hb; exact h a ha⟩
theorem putted_set {x y : It} {ml : List It} (hd : Dist ml) {i : Nat} (hi : ml[i]? = some y) (hk : y.key = x.key) : Putted x ml (ml.set i x) := by
  obtain ⟨hl, hy⟩ := List.getElem?_eq_some_iff.1 hi
  refine ⟨fun e => ?_, ?_, by simp⟩
  · constructor
    · intro he
      obtain ⟨j, hj⟩ := List.mem_iff_getElem?.1 he
      rw [List.getElem?_set] at hj
      by_cases hij : i = j
      · rw [if_pos hij] at hj
        subst hij
        rw [if_pos hl] at hj
        exact .inl (by cases hj; rfl)
      · rw [if_neg hij] at hj
        refine .inr ⟨List.mem_iff_getElem?.2 ⟨j, hj⟩, fun e => hij ?_⟩
        exact dist_at hd hi hj (hk.trans e.symm)
    · rintro (rfl | ⟨he, hne⟩)
      · exact List.mem_iff_getElem?.2 ⟨i, by rw [List.getElem?_set]; simp [hl]⟩
      · obtain ⟨j, hj⟩ := List.mem_iff_getElem?.1 he
        refine List.mem_iff_getElem?.2 ⟨j, ?_⟩
        rw [List.getElem?_set, if_neg]
        · exact hj
        · rintro rfl
          rw [hi] at hj
          cases hj
          exact hne hk
  · rw [Dist, List.pairwise_iff_getElem]
    intro p q hp hq hpq he
    rw [List.length_set] at hp hq
    have hpp : ∃ z, ml[p]? = some z ∧ z.key = ((ml.set i x)[p]'(by simpa using hp)).key := by
      rw [List.getElem_set]
      by_cases h : i = p
      · subst h; exact ⟨y, hi, by simp [hk]⟩
      · exact ⟨_, List.getElem?_eq_getElem hp, by simp [h]⟩
    have hqq : ∃ z, ml[q]? = some z ∧ z.key = ((ml.set i x)[q]'(by simpa using hq)).key := by
      rw [List.getElem_set]
      by_cases h : i = q
      · subst h; exact ⟨y, hi, by simp [hk]⟩
      · exact ⟨_, List.getElem?_eq_getElem hq, by simp [h]⟩
    obtain ⟨z1, e1, k1⟩ := hpp
    obtain ⟨z2, e2, k2⟩ := hqq
    have := dist_at hd e1 e2 (by rw [k1, k2]; exact he)
    omega

set_option maxHeartbeats 800000 in
theorem model_put {B : Nat} {v : Value} {ml : List It} {w : World} (x : It) (h : EsAt B w v ml) (hd : Dist ml) (hn : ml.length ≤ 1048576) (hB : B ≤ w.heap.size) :
    Calls Try.prog 46 #[v, .string x.key, .slice x.va x.vn x.vc] w fun e w' => ∃ v' ml', e = .returned v' ∧ EsAt B w' v' ml' ∧ Putted x ml ml' ∧ Chg (own v) w w' := by
  have HF := model_find x.key h hn
  obtain ⟨i0, hi0, hz0, hz1, hz2⟩ := info70
  have hown : w.ownsRow B 70 2 v ml.length (flat ml) := h
  obtain ⟨va, vn, vc, hv⟩ : ∃ a n c, v = .slice a n c := by
    rcases h.forms with ⟨rfl, _⟩ | ⟨g, cap, rfl, _⟩
    · exact ⟨_, _, _, rfl⟩
    · exact ⟨_, _, _, rfl⟩
  have HV : Hid (v = .slice va vn vc) := hv
  obtain ⟨key, xa, xn, xc⟩ := x
  simp only at *
  subst hv
  have HE : Hid (EsAt B w (.slice va vn vc) ml ∧ Dist ml) := ⟨h, hd⟩
  clear h hd
  go_enter Try.func46, Try.ntmps46
  go_wp2_with fail
  refine HF.mono ?_
  clear HF
  rintro e w1 ⟨⟨rfl, hno⟩ | ⟨i, y, rfl, hi, hk⟩, rfl⟩
  · have HNO : Hid (∀ e ∈ ml, e.key ≠ key) := hno
    clear hno
    have hb1 := heap_alloc_new w (.cells #[.string key, .slice xa xn xc] 70)
    have ho1 := hown.alloc (.cells #[.string key, .slice xa xn xc] 70)
    clear hown
    go_wp2_with (at_builtin; refine wpList_append_lies _ rfl _ _ 34 rfl B 70 i0 _ 2 40 Try.underlying34 hi0 hz0 hz1 hz2 rfl (by decide) _ _ _ rfl ho1 ⟨w.heap.size, 0, none⟩ 1 1 [.string key, .slice xa xn xc] rfl rfl (World.news_of_block hb1) ?c1 (by decide) ?c2 ?c3 ?c4 _ rfl ?_)
    case c1 => intro u hu; simp only [List.mem_cons, List.not_mem_nil, or_false] at hu; rcases hu with rfl | rfl <;> rfl
    case c2 => unfold maxLen; omega
    case c3 => omega
    case c4 => simp only [World.size_alloc]; omega
    intro g cap w2 hown2 hgrow hat hlt
    go_wp2_with fail
    go_ret
    refine ⟨_, ml ++ [⟨key, xa, xn, xc⟩], rfl, ?_, putted_new HE.out.2 HNO.out, ((Chg.refl _ _).alloc _).trans (chg_of_grown hgrow)⟩
    unfold EsAt
    rw [flat_append, List.length_append]
    exact hown2
  · have hil : i < ml.length := (List.getElem?_eq_some_iff.1 hi).1
    rcases HE.out.1.forms with ⟨e, rfl⟩ | ⟨g, cap, e, hBg, hg⟩
    · simp at hil
    simp only [Value.slice.injEq] at e
    obtain ⟨rfl, rfl, rfl⟩ := e
    have h1 := HE.out.1.cellV' rfl hi
    have hf := World.ownsRow.frozenAt hown (i * 2 + 1)
    have hst := World.ownsRow.stored hown (i * 2 + 1) (.slice xa xn xc)
    have HS : Hid _ := hst
    have HI : Hid (ml[i]? = some y ∧ y.key = key ∧ i < ml.length) := ⟨hi, hk, hil⟩
    clear hst hi hk hown
    generalize hnn : ml.length = n at *
    have HN : Hid (ml.length = n) := hnn
    clear hnn
    go_wp2_with fail
    go_ret
    refine ⟨_, ml.set i ⟨key, xa, xn, xc⟩, rfl, ?_, putted_set HE.out.2 HI.out.1 HI.out.2.1, chg_of_grown HS.out.2⟩
    obtain ⟨hl, hy⟩ := List.getElem?_eq_some_iff.1 HI.out.1
    unfold EsAt
    rw [List.length_set, HN.out, flat_set_val ml i ⟨key, xa, xn, xc⟩ hl (by rw [hy]; exact HI.out.2.1)]
    exact HS.out.1

/-! ### modelDelete -/
/-- The list while the tail moves down: places i .. j-1 hold what stood one higher. -/
def Shifted (ml L : List It) (i j : Nat) : Prop := L.length = ml.length ∧ ∀ p, p < ml.length → L[p]? = if i ≤ p ∧ p < j then ml[p + 1]? else ml[p]?
theorem shifted_start (ml : List It) (i : Nat) : Shifted ml ml i i := ⟨rfl, fun p _ => by rw [if_neg (by omega)]⟩
theorem shifted_step {ml L : List It} {i j : Nat} (h : Shifted ml L i j) (hij : i ≤ j) {x : It} (hx : L[j + 1]? = some x) : Shifted ml (L.set j x) i (j + 1) := by
  have hl := (List.getElem?_eq_some_iff.1 hx).1
  refine ⟨by rw [List.length_set]; exact h.1, fun p hp => ?_⟩
  rw [List.getElem?_set]
  by_cases e : j = p
  · subst e
    rw [if_pos rfl, if_pos (by omega), if_pos ⟨hij, by omega⟩]
    have := h.2 (j + 1) (by rw [← h.1]; exact hl)
    rw [if_neg (by omega), hx] at this
    exact this
  · rw [if_neg e, h.2 p hp]
    by_cases hh : i ≤ p ∧ p < j
    · rw [if_pos hh, if_pos (by omega)]
    · rw [if_neg hh, if_neg (by omega)]
theorem shifted_end {ml L : List It} {i n : Nat} (h : Shifted ml L i n) (hi : i ≤ n) (hn : ml.length = n + 1) : ∃ y, L = ml.eraseIdx i ++ [y] := by
  have hL : L.length = n + 1 := h.1.trans hn
  refine ⟨L[n], ?_⟩
  have he : (ml.eraseIdx i).length = n := by rw [List.length_eraseIdx_of_lt (by omega)]; omega
  apply List.ext_getElem?
  intro p
  by_cases hp : p < n
  · rw [List.getElem?_append_left (by omega), List.getElem?_eraseIdx, h.2 p (by omega)]
    by_cases hpi : p < i
    · rw [if_pos hpi, if_neg (by omega)]
    · rw [if_neg hpi, if_pos (by omega)]
  · by_cases e : p = n
    · subst e
      rw [List.getElem?_append_right (by omega), he, Nat.sub_self, List.getElem?_eq_getElem (by omega)]
      rfl
    · rw [List.getElem?_eq_none (by omega), List.getElem?_eq_none (by simp only [List.length_append, he, List.length_singleton]; omega)]
theorem erase_del {ml : List It} (hd : Dist ml) {i : Nat} {y : It} (hi : ml[i]? = some y) : ml.eraseIdx i = delL y.key ml := by
  obtain ⟨hl, hy⟩ := List.getElem?_eq_some_iff.1 hi
  have hsp : ml = ml.take i ++ y :: ml.drop (i + 1) := by rw [← hy, List.getElem_cons_drop, List.take_append_drop]
  have h1 : ∀ e ∈ ml.take i, e.key ≠ y.key := fun e he hk => by
    obtain ⟨j, hj⟩ := List.mem_iff_getElem?.1 he
    have hjl : j < i := by have := (List.getElem?_eq_some_iff.1 hj).1; rw [List.length_take] at this; omega
    rw [List.getElem?_take, if_pos hjl] at hj
    have := dist_at hd hj hi hk
    omega
  have h2 : ∀ e ∈ ml.drop (i + 1), e.key ≠ y.key := fun e he hk => by
    obtain ⟨j, hj⟩ := List.mem_iff_getElem?.1 he
    rw [List.getElem?_drop] at hj
    have := dist_at hd hj hi hk
    omega
  have h3 : delL y.key ml = delL y.key (ml.take i ++ ([y] ++ ml.drop (i + 1))) := by rw [List.singleton_append, ← hsp]
  rw [h3, delL_append, delL_append, delL_none h1, delL_none h2, delL_one rfl, List.nil_append, List.eraseIdx_eq_take_drop_succ]

set_option maxHeartbeats 800000 in
theorem model_delete {B : Nat} {v : Value} {ml : List It} {w : World} (key : ByteArray) (h : EsAt B w v ml) (hd : Dist ml) (hn : ml.length ≤ 1048576) (hB : B ≤ w.heap.size) :
    Calls Try.prog 45 #[v, .string key] w fun e w' => ∃ v', e = .returned v' ∧ EsAt B w' v' (delL key ml) ∧ Chg (own v) w w' := by
  have HF := model_find key h hn
  obtain ⟨va, vn, vc, hv⟩ : ∃ a n c, v = .slice a n c := by
    rcases h.forms with ⟨rfl, _⟩ | ⟨g, cap, rfl, _⟩
    · exact ⟨_, _, _, rfl⟩
    · exact ⟨_, _, _, rfl⟩
  subst hv
  have HE : Hid (EsAt B w (.slice va vn vc) ml ∧ Dist ml) := ⟨h, hd⟩
  clear h hd
  go_enter Try.func45, Try.ntmps45
  go_wp2_with fail
  refine HF.mono ?_
  clear HF
  rintro e w1 ⟨⟨rfl, hno⟩ | ⟨i, y, rfl, hi, hk⟩, rfl⟩
  · have HNO : Hid (∀ e ∈ ml, e.key ≠ key) := hno
    clear hno
    go_wp2_with fail
    go_ret
    exact ⟨_, rfl, by rw [delL_none HNO.out]; exact HE.out.1, Chg.refl _ _⟩
  · have hil : i < ml.length := (List.getElem?_eq_some_iff.1 hi).1
    rcases HE.out.1.forms with ⟨e, rfl⟩ | ⟨g, cap, e, hBg, hg⟩
    · simp at hil
    simp only [Value.slice.injEq] at e
    obtain ⟨rfl, rfl, rfl⟩ := e
    have hcap : ml.length ≤ vc := by
      rcases HE.out.1.2 with ⟨e, _⟩ | ⟨g', cap', cur, e, _, _, h4, _⟩
      · cases e
      · simp only [Value.slice.injEq] at e
        omega
    have HI : Hid (ml[i]? = some y ∧ y.key = key) := ⟨hi, hk⟩
    clear hi hk
    generalize hnn : ml.length = n at *
    have HN : Hid (ml.length = n) := hnn
    clear hnn
    go_wp2_with fail
    go_loopg [6] (n - i) (fun gg jj wr => ∃ (j : Nat) (L : List It), i ≤ j ∧ j < n ∧ gg = n - j ∧ jj = .int .i64 j ∧ Shifted ml L i j ∧ EsAt B wr (.slice (some ⟨g, 0, none⟩) n vc) L ∧ Chg [g] w wr)
    case atStart => exact ⟨i, ml, by omega, hil, by omega, rfl, shifted_start ml i, HE.out.1, Chg.refl _ _⟩
    case round =>
      obtain ⟨j, L, hij, hjn, hgg, rfl, hsh, hes, hch⟩ := hrel
      have hLn : L.length = n := hsh.1.trans HN.out
      have HG : Hid (gk = n - j) := hgg
      have HS : Hid (Shifted ml L i j ∧ EsAt B wr (.slice (some ⟨g, 0, none⟩) n vc) L ∧ Chg [g] w wr ∧ L.length = n) := ⟨hsh, hes, hch, hLn⟩
      clear hgg hsh hch
      by_cases hlt : j + 1 < n
      · obtain ⟨x, hx⟩ : ∃ x, L[j + 1]? = some x := ⟨_, List.getElem?_eq_getElem (by omega)⟩
        obtain ⟨z, hz⟩ : ∃ z, L[j]? = some z := ⟨_, List.getElem?_eq_getElem (by omega)⟩
        have h1 := hes.cellK' hLn hx
        have h2 := hes.cellV' hLn hx
        have h3 := hes.cellK' hLn hz
        have h4 := hes.cellV' hLn hz
        have hes' := hes
        unfold EsAt at hes'
        rw [hLn] at hes'
        have hf := World.ownsRow.frozenAt hes' (j * 2)
        have hst1 := World.ownsRow.stored hes' (j * 2) (.string x.key)
        have hst2 := World.ownsRow.stored hst1.1 (j * 2 + 1) (.slice x.va x.vn x.vc)
        have hf2 := World.ownsRow.frozenAt hes' (j * 2 + 1)
        have HX : Hid _ := And.intro hst1 hst2
        have HXX : Hid (L[j + 1]? = some x) := hx
        clear hst1 hst2 hes hes' hx hz hLn
        go_wp2_with fail
        go_roundg (n - (j + 1))
        case measure => have := HG.out; omega
        case rel =>
          refine ⟨j + 1, L.set j x, by omega, by omega, rfl, by go_num, shifted_step HS.out.1 hij HXX.out, ?_, (HS.out.2.2.1.setCell (.inl (by simp)) _).setCell (.inl (by simp)) _⟩
          unfold EsAt
          rw [List.length_set, HS.out.2.2.2, flat_set L j x (by rw [HS.out.2.2.2]; exact hjn)]
          exact HX.out.2.1
      · obtain rfl : n = j + 1 := by omega
        clear hlt
        have zs : ((j + 1 : Nat) : Int) - 1 = (j : Nat) := by omega
        go_wp2_with fail
        go_ret
        obtain ⟨z, hz⟩ := shifted_end HS.out.1 hij HN.out
        have hel : (ml.eraseIdx i).length = j := by rw [List.length_eraseIdx_of_lt (by rw [HN.out]; exact hil), HN.out]; omega
        refine ⟨_, rfl, ?_, HS.out.2.2.1⟩
        rw [← HI.out.2, ← erase_del HE.out.2 HI.out.1]
        have h9 := HS.out.2.1
        unfold EsAt at h9 ⊢
        rw [HS.out.2.2.2, hz, flat_append] at h9
        rw [hel]
        exact ownsRow_pop (by rw [flat_length, hel]) h9
end Go.Proofs.Qxb6603401a
