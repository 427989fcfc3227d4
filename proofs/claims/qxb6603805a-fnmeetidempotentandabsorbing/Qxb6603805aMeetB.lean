import Derived.Test.Qxb6603805aMeetA
import Derived.Deep.RegionHeld3
import Derived.Deep.AppendLies
namespace Go.Proofs.Qxb6603805a
open Go.RowKit Go.Deep

theorem meetL_nil_left (f : Nat) (qs : List (Int × Int)) : meetL f [] qs = [] := by cases f <;> rfl
theorem meetL_nil_right (f : Nat) (ps : List (Int × Int)) : meetL f ps [] = [] := by cases f <;> cases ps <;> rfl

/-- A clock's cells, flat. -/
def flat (ps : List (Int × Int)) : List Value := ps.flatMap fun p => [.int .i32 p.1, .int .i32 p.2]
theorem flat_length (ps : List (Int × Int)) : (flat ps).length = ps.length * 2 := by
  induction ps with
  | nil => rfl
  | cons p ps ih => simp only [flat, List.flatMap_cons, List.length_append, List.length_cons, List.length_nil] at *; omega
theorem flat_snoc (ps : List (Int × Int)) (p : Int × Int) : flat (ps ++ [p]) = flat ps ++ [.int .i32 p.1, .int .i32 p.2] := by simp [flat]
theorem flat_at (ps : List (Int × Int)) : ∀ (i : Nat), i < ps.length → (flat ps)[i * 2]? = some (.int .i32 (ps.getD i default).1) ∧ (flat ps)[i * 2 + 1]? = some (.int .i32 (ps.getD i default).2) := by
  induction ps with
  | nil => intro i hi; simp at hi
  | cons p ps ih =>
    intro i hi
    cases i with
    | zero => simp [flat]
    | succ i =>
      have := ih i (by simpa using hi)
      simp only [flat, List.flatMap_cons] at *
      have e1 : (i + 1) * 2 = i * 2 + 1 + 1 := by omega
      rw [e1]
      simpa using this

/-- The step of the walk over two clocks. -/
theorem meet_lt {f i j : Nat} {C D : List (Int × Int)} (hi : i < C.length) (hj : j < D.length) (h : (C.getD i default).1 < (D.getD j default).1) :
    meetL (f + 1) (C.drop i) (D.drop j) = meetL f (C.drop (i + 1)) (D.drop j) := by
  rw [List.drop_eq_getElem_cons hi, List.drop_eq_getElem_cons hj]
  simp only [List.getD_eq_getElem?_getD, List.getElem?_eq_getElem hi, List.getElem?_eq_getElem hj, Option.getD_some] at h
  simp only [meetL, h, if_true]
theorem meet_gt {f i j : Nat} {C D : List (Int × Int)} (hi : i < C.length) (hj : j < D.length) (h : (D.getD j default).1 < (C.getD i default).1) :
    meetL (f + 1) (C.drop i) (D.drop j) = meetL f (C.drop i) (D.drop (j + 1)) := by
  rw [List.drop_eq_getElem_cons hi, List.drop_eq_getElem_cons hj]
  simp only [List.getD_eq_getElem?_getD, List.getElem?_eq_getElem hi, List.getElem?_eq_getElem hj, Option.getD_some] at h
  have h' : ¬ C[i].1 < D[j].1 := by omega
  simp only [meetL, h, h', if_true, if_false]
theorem meet_eq {f i j : Nat} {C D : List (Int × Int)} (hi : i < C.length) (hj : j < D.length) (h : (C.getD i default).1 = (D.getD j default).1) :
    meetL (f + 1) (C.drop i) (D.drop j) = ((C.getD i default).1, if (D.getD j default).2 < (C.getD i default).2 then (D.getD j default).2 else (C.getD i default).2) :: meetL f (C.drop (i + 1)) (D.drop (j + 1)) := by
  rw [List.drop_eq_getElem_cons hi, List.drop_eq_getElem_cons hj]
  simp only [List.getD_eq_getElem?_getD, List.getElem?_eq_getElem hi, List.getElem?_eq_getElem hj, Option.getD_some] at *
  have h1 : ¬ C[i].1 < D[j].1 := by omega
  have h2 : ¬ D[j].1 < C[i].1 := by omega
  simp only [meetL, h1, h2, if_false]

theorem clk_of_owns {w : World} {base : Nat} {v : Value} {R : List (Int × Int)} (h : w.ownsRow base 42 2 v R.length (flat R)) : Clk w v R := by
  rcases h.2 with ⟨rfl, h0⟩ | ⟨g, cap, cur, rfl, _⟩
  · obtain rfl := List.eq_nil_of_length_eq_zero h0
    exact ⟨_, _, rfl, .inl rfl⟩
  · refine ⟨_, _, rfl, .inr ⟨g, rfl, fun i hi => ⟨?_, ?_⟩⟩⟩
    · rw [h.cellAt _ (by omega)]; exact (flat_at R i hi).1
    · rw [h.cellAt _ (by omega)]; exact (flat_at R i hi).2

set_option maxHeartbeats 1000000 in
set_option maxRecDepth 100000 in
theorem meet_some (bc cc bd cd n m : Nat) (C D : List (Int × Int)) (w : World) (hn : n = C.length) (hm : m = D.length) (hs : n ≤ 1048576) (hs' : m ≤ 1048576)
    (hc : ∀ i, i < n → w.cell? ⟨bc, i * 2, none⟩ = some (.int .i32 (C.getD i default).1) ∧ w.cell? ⟨bc, i * 2 + 1, none⟩ = some (.int .i32 (C.getD i default).2))
    (hd : ∀ i, i < m → w.cell? ⟨bd, i * 2, none⟩ = some (.int .i32 (D.getD i default).1) ∧ w.cell? ⟨bd, i * 2 + 1, none⟩ = some (.int .i32 (D.getD i default).2)) :
    Calls Try.prog 20 #[.slice (some ⟨bc, 0, none⟩) n cc, .slice (some ⟨bd, 0, none⟩) m cd] w fun e w' => ∃ v, e = .returned v ∧ Clk w' v (meetL (n + m) C D) ∧ Below w.heap.size w w' := by
  obtain ⟨i0, hi0, hz0, hz1, hz2⟩ := info_parts Try.info42
  generalize hR : meetL (n + m) C D = R
  have HR : Hid _ := hR
  have HN : Hid _ := hn
  have HM : Hid _ := hm
  clear hR hn hm
  have HC : Hid _ := hc
  have HD : Hid _ := hd
  clear hc hd
  go_enter Try.func20, Try.ntmps20
  go_wp2
  go_loopg [5, 6, 7] (n + m) (fun g v i j wr => ∃ (k l : Nat) (acc : List (Int × Int)), k ≤ n ∧ l ≤ m ∧ (n - k) + (m - l) ≤ g ∧ i = .int .i64 k ∧ j = .int .i64 l ∧ acc.length ≤ k ∧
      wr.ownsRow w.heap.size 42 2 v acc.length (flat acc) ∧ acc ++ meetL g (C.drop k) (D.drop l) = R ∧ Below w.heap.size w wr)
  case atStart => exact ⟨0, 0, [], by omega, by omega, by omega, rfl, rfl, by simp, World.ownsRow_nil _ _ _ _, by simpa using HR.out, Below.refl _ _⟩
  case round =>
    obtain ⟨k, l, acc, hk, hl, hg, rfl, rfl, hacc, hown, happ, hbel⟩ := hrel
    have HA : Hid _ := happ
    clear happ
    by_cases hkn : k < n
    · by_cases hlm : l < m
      · have h1 := cell_later hbel (HC.out k hkn).1
        have h2 := cell_later hbel (HC.out k hkn).2
        have h3 := cell_later hbel (HD.out l hlm).1
        have h4 := cell_later hbel (HD.out l hlm).2
        have hkC : k < C.length := by rw [← HN.out]; exact hkn
        have hlD : l < D.length := by rw [← HM.out]; exact hlm
        have M1 : Hid _ := @meet_lt (gk - 1) k l C D hkC hlD
        have M2 : Hid _ := @meet_gt (gk - 1) k l C D hkC hlD
        have M3 : Hid _ := @meet_eq (gk - 1) k l C D hkC hlD
        generalize (C.getD k default).1 = cw at *
        generalize (C.getD k default).2 = cn at *
        generalize (D.getD l default).1 = dw at *
        generalize (D.getD l default).2 = dn at *
        have hgk : gk - 1 + 1 = gk := by omega
        rw [hgk] at M1 M2 M3
        clear hkC hlD
        by_cases hlt : cw < dw
        · go_wp2
          go_quiet (fail)
          go_wp2
          go_roundg (gk - 1)
          case measure => omega
          case rel => exact ⟨k + 1, l, acc, by omega, by omega, by omega, by go_num, rfl, by omega, hown, by rw [← M1.out hlt]; exact HA.out, below_drewN hbel _⟩
        · by_cases hgt : dw < cw
          · go_wp2
            go_quiet (fail)
            go_wp2
            go_quiet (fail)
            go_wp2
            go_roundg (gk - 1)
            case measure => omega
            case rel => exact ⟨k, l + 1, acc, by omega, by omega, by omega, rfl, by go_num, by omega, hown, by rw [← M2.out hgt]; exact HA.out, below_drewN hbel _⟩
          · go_wp2
            go_quiet (fail)
            go_wp2
            go_quiet (fail)
            go_wp2
            generalize hW : (World.drewN wr _).drewN _ = W
            have e1 : ∀ a, W.cell? a = wr.cell? a := fun a => by rw [← hW]; rfl
            have e2 : W.heap.size = wr.heap.size := by rw [← hW]; rfl
            have hownW : W.ownsRow w.heap.size 42 2 u5 acc.length (flat acc) := by rw [← hW]; exact hown
            have hbelW : Below w.heap.size w W := by rw [← hW]; exact below_drewN (below_drewN hbel _) _
            rw [← e1] at h1 h2 h3 h4
            clear hW e1 e2 hown hbel
            have hb1 : u5.ownBlock ≠ some bc := fun h => by have := (hownW.lt _ h).1; have := World.block_lt_of_cell? w _ (HC.out k hkn).1; simp at this; omega
            have hb2 : u5.ownBlock ≠ some bd := fun h => by have := (hownW.lt _ h).1; have := World.block_lt_of_cell? w _ (HD.out l hlm).1; simp at this; omega
            have lc : bc < W.heap.size := World.block_lt_of_cell? W _ h1
            have ld : bd < W.heap.size := World.block_lt_of_cell? W _ h3
            have i1 : (0 : Int) ≤ (k : Int) := Int.natCast_nonneg _
            have i2 : (k : Int) < (n : Int) := by omega
            have i3 : (0 : Int) ≤ (l : Int) := Int.natCast_nonneg _
            have i4 : (l : Int) < (m : Int) := by omega
            have hsz := hbelW.size
            go_region_held3 (fun w' => w'.cell? ⟨bc, k * 2, none⟩ = some (.int .i32 cw) ∧ w'.cell? ⟨bc, k * 2 + 1, none⟩ = some (.int .i32 cn) ∧ w'.cell? ⟨bd, l * 2 + 1, none⟩ = some (.int .i32 dn))
              (first
                | go_keep
                | (go_split_ands
                   refine ⟨?_, ?_, ?_⟩
                   · (rw [hgrow.cell_far _ (by simp; omega) (Ne.symm hb1)]; assumption)
                   · (rw [hgrow.cell_far _ (by simp; omega) (Ne.symm hb1)]; assumption)
                   · (rw [hgrow.cell_far _ (by simp; omega) (Ne.symm hb2)]; assumption)))
              ((refine step_append_lies _ (by rfl) _ _ _ (by rfl) w.heap.size 42 i0 _ 2 8 Try.underlying38 hi0 hz0 hz1 hz2 rfl (by omega) u5 acc.length (flat acc) (by rfl) ((hownW.alloc _).drew)
                  ⟨W.heap.size, 0, none⟩ 1 1 [.int .i32 cw, .int .i32 (if dn < cn then dn else cn)] (by rfl) (by rfl) (World.news_of_block (cs := #[.int .i32 cw, .int .i32 (if dn < cn then dn else cn)]) (t := 42) (fr := (0, 0)) (heap_alloc_new W _)) (by simp [Value.oneCell'])
                  (by omega) (by unfold maxLen; omega) (by omega) (by simp; omega) (W.heap.size + 1) (by simp) ?_; intro gg cap w1 hown1 hgrow hat hlt1))
            have hb3 : Below w.heap.size w w1 := ((hbelW.alloc hsz _).drew).grown hgrow (by simp; omega) (fun k' hk' => (hownW.lt _ hk').1)
            have hA2 : (acc ++ [(cw, if dn < cn then dn else cn)]) ++ meetL (gk - 1) (C.drop (k + 1)) (D.drop (l + 1)) = R := by rw [← HA.out, M3.out (by omega)]; simp
            have hO2 : w1.ownsRow w.heap.size 42 2 (Value.slice (some ⟨gg, 0, none⟩) (acc.length + 1) cap) (acc ++ [(cw, if dn < cn then dn else cn)]).length (flat (acc ++ [(cw, if dn < cn then dn else cn)])) := by
              rw [flat_snoc, List.length_append]; exact hown1
            have hl2 : (acc ++ [(cw, if dn < cn then dn else cn)]).length ≤ k + 1 := by simp; omega
            have HA2 : Hid _ := hA2
            have HO2 : Hid _ := hO2
            clear hA2 hO2 hown1 hgrow hat
            generalize (acc ++ [(cw, if dn < cn then dn else cn)]) = acc2 at HA2 HO2 hl2
            go_wp2
            all_goals
              go_roundg (gk - 1)
              case measure => omega
              case rel => exact ⟨k + 1, l + 1, acc2, by omega, by omega, by omega, by go_num, by go_num, hl2, HO2.out, HA2.out, hb3⟩
      · obtain rfl : l = m := by omega
        go_wp2
        go_ret
        have : R = acc := by rw [← HA.out, HM.out, List.drop_length, meetL_nil_right]; simp
        subst this
        exact ⟨_, rfl, clk_of_owns hown, hbel⟩
    · obtain rfl : k = n := by omega
      go_wp2
      go_ret
      have : R = acc := by rw [← HA.out, HN.out, List.drop_length, meetL_nil_left]; simp
      subst this
      exact ⟨_, rfl, clk_of_owns hown, hbel⟩

set_option maxHeartbeats 400000 in
theorem meet_zero_left (a a' : Option Addr) (c c' m : Nat) (w : World) :
    Calls Try.prog 20 #[.slice a 0 c, .slice a' m c'] w fun e w' => ∃ v, e = .returned v ∧ Clk w' v [] ∧ Below w.heap.size w w' := by
  go_enter Try.func20, Try.ntmps20
  go_wp2
  refine wp_loop_rounds 1 ?_
  rw [rounds_succ]
  go_wp2
  go_ret
  exact ⟨_, rfl, ⟨_, _, rfl, .inl rfl⟩, Below.refl _ _⟩

set_option maxHeartbeats 400000 in
theorem meet_zero_right (a a' : Option Addr) (c c' n : Nat) (hn : 0 < n) (w : World) :
    Calls Try.prog 20 #[.slice a n c, .slice a' 0 c'] w fun e w' => ∃ v, e = .returned v ∧ Clk w' v [] ∧ Below w.heap.size w w' := by
  go_enter Try.func20, Try.ntmps20
  go_wp2
  refine wp_loop_rounds 1 ?_
  rw [rounds_succ]
  go_wp2
  go_ret
  exact ⟨_, rfl, ⟨_, _, rfl, .inl rfl⟩, Below.refl _ _⟩

theorem meet_any {u v : Value} {C D : List (Int × Int)} {w : World} (h : Clk w u C) (h' : Clk w v D) (hs : C.length ≤ 1048576) (hs' : D.length ≤ 1048576) :
    Calls Try.prog 20 #[u, v] w fun e w' => ∃ v, e = .returned v ∧ Clk w' v (meetL (C.length + D.length) C D) ∧ Below w.heap.size w w' := by
  obtain ⟨a, c, rfl, hx | ⟨b, rfl, hc⟩⟩ := h
  · subst hx
    rw [meetL_nil_left]
    obtain ⟨a', c', rfl, _⟩ := h'
    exact meet_zero_left a a' c c' _ w
  · obtain ⟨a', c', rfl, hy | ⟨b', rfl, hc'⟩⟩ := h'
    · subst hy
      rw [meetL_nil_right]
      cases C with
      | nil => exact meet_zero_left _ a' c c' _ w
      | cons p ps => exact meet_zero_right _ a' c c' _ (by simp) w
    · exact meet_some b c b' c' _ _ C D w rfl rfl hs hs' hc hc'

/-- The two columns of a clock. -/
theorem zipped (ps : List (Int × Int)) : (ps.map Prod.fst).zip (ps.map Prod.snd) = ps := by
  induction ps with
  | nil => rfl
  | cons p ps ih => simp [ih]

set_option maxHeartbeats 1000000 in
/-- The tail of ZZMeet: the clock 'm' laid out in two columns. -/
theorem zzmeet_any {a b c d : Value} {xs ys zs us : List Int} {w : World} (ha : Row w a xs) (hb : Row w b ys) (hc : Row w c zs) (hd : Row w d us)
    (hl : xs.length = ys.length) (hl' : zs.length = us.length) (hs : xs.length ≤ 65536) (hs' : zs.length ≤ 65536)
    (R : List (Int × Int)) (hR : meetL (xs.length + zs.length) (xs.zip ys) (zs.zip us) = R) (hRs : R.length ≤ 65536) :
    Calls Try.prog 9 #[a, b, c, d] w fun e w' => ∃ u v, e = .returned (.tuple #[u, v]) ∧ Row w' u (R.map Prod.fst) ∧ Row w' v (R.map Prod.snd) ∧ Below w.heap.size w w' := by
  have hnil := fun (w : World) (a : Option Addr) (n c n' c' : Nat) => Lib.run_eql_slice_nil (P := Try.prog) w 38 42 a n c n' c' Try.underlying38
  have hmk : ∀ (n : Nat) (_ : n ≤ 65536) (w : World), (Instr.makeSlice 22 (.int .i64 (n : Int)) (.int .i64 (n : Int))).run Try.prog w = .ok (.slice (some ⟨w.heap.size, 0, none⟩) n n) (w.alloc (.cells (madeCells #[.int .i32 0] n) 21)) :=
    fun n hn w => run_make_row' (P := Try.prog) 22 21 (.int .i32 0) 4 Try.underlying22 Try.info21 rfl .i64 .i64 n (by omega) (by omega) w
  have HM : Hid _ := hmk
  clear hmk
  have HR : Hid _ := hR
  clear hR
  have HL : Hid _ := hl
  have HL' : Hid _ := hl'
  clear hl hl'
  go_enter Try.func9, Try.ntmps9
  go_wp2_with fail
  refine (clock_any ha hb HL.out (by omega)).mono ?_
  rintro e w1 ⟨u, rfl, hu, hb1⟩
  go_wp2_with fail
  refine (clock_any (hc.later hb1) (hd.later hb1) HL'.out (by omega)).mono ?_
  rintro e w2 ⟨v, rfl, hv, hb2⟩
  have hu2 := hu.later hb2
  have hbb := below_trans hb1 hb2
  clear hu hb1 hb2
  have z1 : (xs.zip ys).length = xs.length := by simp [HL.out]
  have z2 : (zs.zip us).length = zs.length := by simp [HL'.out]
  have hmeet := meet_any hu2 hv (by rw [z1]; omega) (by rw [z2]; omega)
  rw [z1, z2, HR.out] at hmeet
  clear z1 z2
  go_wp2_with fail
  refine hmeet.mono ?_
  rintro e w3 ⟨r, rfl, hr, hb3⟩
  have hbb3 := below_trans hbb hb3
  clear hbb hb3 hmeet hu2 hv ha hb hc hd
  obtain ⟨ra, rc, rfl, hr' | ⟨rb, rfl, hcell⟩⟩ := hr
  · subst hr'
    cases ra with
    | none =>
      go_wp2_with fail
      go_ret2
      exact ⟨_, _, rfl, ⟨_, _, rfl, .inl rfl⟩, ⟨_, _, rfl, .inl rfl⟩, hbb3⟩
    | some ad =>
      have hm0 : ∀ w, (Instr.makeSlice 22 (.int .i64 0) (.int .i64 0)).run Try.prog w = .ok (.slice (some ⟨w.heap.size, 0, none⟩) 0 0) (w.alloc (.cells (madeCells #[.int .i32 0] 0) 21)) := HM.out 0 (by omega)
      go_wp2_with fail
      refine wp_loop_rounds 1 ?_
      rw [rounds_succ]
      go_wp2_with fail
      go_ret2
      exact ⟨_, _, rfl, ⟨_, _, rfl, .inl rfl⟩, ⟨_, _, rfl, .inl rfl⟩, (hbb3.alloc hbb3.size _).alloc (by simp; exact Nat.le_succ_of_le hbb3.size) _⟩
  · have hm0 := HM.out R.length hRs
    generalize hn : R.length = n at *
    have HN : Hid _ := hn
    clear hn
    have HC : Hid _ := hcell
    clear hcell
    have hB := hbb3.size
    go_wp2_with fail
    go_loopg [13] n (fun g i wr => ∃ k : Nat, k ≤ n ∧ g = n - k ∧ i = .int .i64 k ∧ wr.rowIs w3.heap.size 21 n (filled (R.map Prod.fst) k) ∧ wr.rowIs (w3.heap.size + 1) 21 n (filled (R.map Prod.snd) k) ∧ Below w3.heap.size w3 wr)
    case atStart =>
      refine ⟨0, by omega, by omega, rfl, ((World.rowIs_made w3 _ n 21).congr (fun i _ => (filled_zero _ i).symm)).alloc _, ?_, ((Below.refl _ _).alloc (Nat.le_refl _) _).alloc (by simp) _⟩
      have := (World.rowIs_made (w3.alloc (.cells (madeCells #[.int .i32 0] n) 21)) (.int .i32 0) n 21).congr (fun i _ => (filled_zero (R.map Prod.snd) i).symm)
      simpa using this
    case round =>
      obtain ⟨k, hk, hg, rfl, hrow1, hrow2, hbel⟩ := hrel
      have HG : Hid (gk = n - k) := hg
      clear hg
      by_cases hlt : k < n
      · have h1 := cell_later hbel (HC.out k hlt).1
        have h2 := cell_later hbel (HC.out k hlt).2
        have h3 := hrow1.cell hlt
        have h4 := hrow2.cell hlt
        have h5 := hrow1.frozen k
        have h6 := hrow2.frozen k
        have hkR : k < R.length := by rw [HN.out]; exact hlt
        have e1 : (R.map Prod.fst).getD k 0 = (R.getD k default).1 := by simp [List.getD_eq_getElem?_getD, hkR]
        have e2 : (R.map Prod.snd).getD k 0 = (R.getD k default).2 := by simp [List.getD_eq_getElem?_getD, hkR]
        have hst1 := ((hrow1.set k (.int .i32 ((R.map Prod.fst).getD k 0))).congr (fun i _ => filled_step _ k i)).setOther (a := ⟨w3.heap.size + 1, k, none⟩) (by simp) (.int .i32 ((R.map Prod.snd).getD k 0))
        have hst2 := ((hrow2.setOther (a := ⟨w3.heap.size, k, none⟩) (by simp) (.int .i32 ((R.map Prod.fst).getD k 0))).set k (.int .i32 ((R.map Prod.snd).getD k 0))).congr (fun i _ => filled_step _ k i)
        rw [e1, e2] at hst1 hst2
        clear e1 e2 hkR
        have HS1 : Hid _ := hst1
        have HS2 : Hid _ := hst2
        clear hst1 hst2
        go_wp2_with fail
        go_roundg (n - (k + 1))
        case measure => have := HG.out; omega
        case rel => exact ⟨k + 1, by omega, rfl, by go_num, HS1.out, HS2.out, (hbel.setCell (Nat.le_refl _) _).setCell (by show w3.heap.size ≤ w3.heap.size + 1; omega) _⟩
      · obtain rfl : k = n := by omega
        go_wp2_with fail
        go_ret2
        exact ⟨_, _, rfl, row_of_rowIs hrow1 (by simp [HN.out]), row_of_rowIs hrow2 (by simp [HN.out]), below_trans hbb3 hbel⟩
end Go.Proofs.Qxb6603805a
