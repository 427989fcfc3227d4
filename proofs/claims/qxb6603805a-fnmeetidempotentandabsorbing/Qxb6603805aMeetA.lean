import Derived.Test.Qxb6603805aBase
namespace Go.Proofs.Qxb6603805a
open Go.RowKit Go.Deep

/-! ### zzSame, at two slices that hold the same -/
set_option maxHeartbeats 400000 in
theorem same_zero (a a' : Option Addr) (c c' : Nat) (w : World) :
    Calls Try.prog 12 #[.slice a 0 c, .slice a' 0 c'] w fun e w' => e = .returned (.bool true) ∧ Below w.heap.size w w' := by
  go_enter Try.func12, Try.ntmps12
  go_wp2
  refine wp_loop_rounds 1 ?_
  rw [rounds_succ]
  go_wp2
  go_ret
  exact ⟨rfl, Below.refl _ _⟩

set_option maxHeartbeats 400000 in
theorem same_some (b off c b' off' c' n : Nat) (xs : List Int) (w : World) (hn : n = xs.length) (hs : n ≤ 1048576)
    (hc : ∀ i, i < n → w.cell? ⟨b, off + i, none⟩ = some (.int .i32 (xs.getD i 0)))
    (hc' : ∀ i, i < n → w.cell? ⟨b', off' + i, none⟩ = some (.int .i32 (xs.getD i 0))) :
    Calls Try.prog 12 #[.slice (some ⟨b, off, none⟩) n c, .slice (some ⟨b', off', none⟩) n c'] w fun e w' => e = .returned (.bool true) ∧ Below w.heap.size w w' := by
  have HN : Hid (n = xs.length) := hn
  clear hn
  have HC : Hid _ := hc
  have HC' : Hid _ := hc'
  clear hc hc'
  go_enter Try.func12, Try.ntmps12
  go_wp2
  go_loopg [5] n (fun g i wr => ∃ k : Nat, k ≤ n ∧ g = n - k ∧ i = .int .i64 k ∧ Below w.heap.size w wr)
  case atStart => exact ⟨0, by omega, by omega, rfl, Below.refl _ _⟩
  case round =>
    obtain ⟨k, hk, hg, rfl, hbel⟩ := hrel
    have HG : Hid (gk = n - k) := hg
    clear hg
    by_cases hlt : k < n
    · have h1 := cell_later hbel (HC.out k hlt)
      have h2 := cell_later hbel (HC'.out k hlt)
      generalize xs.getD k 0 = x at h1 h2
      go_wp2
      go_quiet (fail)
      go_wp2
      go_roundg (n - (k + 1))
      case measure => have := HG.out; omega
      case rel => exact ⟨k + 1, by omega, rfl, by go_num, below_drewN hbel _⟩
    · go_wp2
      go_ret
      exact ⟨rfl, hbel⟩

theorem same_any {u v : Value} {xs : List Int} {w : World} (h : Row w u xs) (h' : Row w v xs) (hs : xs.length ≤ 1048576) :
    Calls Try.prog 12 #[u, v] w fun e w' => e = .returned (.bool true) ∧ Below w.heap.size w w' := by
  obtain ⟨a, c, rfl, hx | ⟨b, off, rfl, hc⟩⟩ := h
  · subst hx
    obtain ⟨a', c', rfl, _⟩ := h'
    exact same_zero a a' c c' w
  · obtain ⟨a', c', rfl, hx | ⟨b', off', rfl, hc'⟩⟩ := h'
    · subst hx
      exact same_zero _ a' c c' w
    · exact same_some b off c b' off' c' _ xs w rfl hs hc hc'

/-! ### clocks: slices of two cells an element -/
theorem Try.info42 : (Try.prog.info? 42).map (fun i => (i.zero, i.size, i.bytes)) = some (some (.agg #[.int .i32 0, .int .i32 0]), 2, 8) := by kernel_rfl

def Clk (w : World) (v : Value) (ps : List (Int × Int)) : Prop :=
  ∃ a c, v = .slice a ps.length c ∧ (ps = [] ∨ ∃ b, a = some ⟨b, 0, none⟩ ∧
    ∀ i, i < ps.length → w.cell? ⟨b, i * 2, none⟩ = some (.int .i32 (ps.getD i default).1) ∧ w.cell? ⟨b, i * 2 + 1, none⟩ = some (.int .i32 (ps.getD i default).2))

theorem Clk.later {w w' : World} {v : Value} {ps : List (Int × Int)} (h : Clk w v ps) (hb : Below w.heap.size w w') : Clk w' v ps := by
  obtain ⟨a, c, rfl, h | ⟨b, rfl, hc⟩⟩ := h
  · exact ⟨a, c, rfl, .inl h⟩
  · exact ⟨_, c, rfl, .inr ⟨b, rfl, fun i hi => ⟨cell_later hb (hc i hi).1, cell_later hb (hc i hi).2⟩⟩⟩

theorem run_make_clock (n : Nat) (hs : n ≤ 1048576) (w : World) :
    (Instr.makeSlice 38 (.int .i64 (n : Int)) (.int .i64 (n : Int))).run Try.prog w = .ok (.slice (some ⟨w.heap.size, 0, none⟩) n n) (w.alloc (.cells (madeCells #[.int .i32 0, .int .i32 0] (n * 2)) 42)) := by
  obtain ⟨i, hi, hzz⟩ := Option.map_eq_some_iff.1 Try.info42
  simp only [Prod.mk.injEq] at hzz
  obtain ⟨hz, hs', hb⟩ := hzz
  have := run_make (P := Try.prog) w 38 42 i _ Try.underlying38 hi hz .i64 .i64 (n : Int) (n : Int) (by omega) (by omega) (by rw [hb]; omega) (by omega)
  rw [hs'] at this
  simpa [Value.cells] using this

/-- The clock's cells when k of its elements are laid. -/
def clkCell (ps : List (Int × Int)) (k : Nat) : Nat → Value := fun j =>
  if j < k * 2 then (if j % 2 = 0 then .int .i32 (ps.getD (j / 2) default).1 else .int .i32 (ps.getD (j / 2) default).2) else .int .i32 0

theorem clk_step (ps : List (Int × Int)) (k j : Nat) :
    (if j = k * 2 + 1 then Value.int .i32 (ps.getD k default).2 else if j = k * 2 then Value.int .i32 (ps.getD k default).1 else clkCell ps k j) = clkCell ps (k + 1) j := by
  unfold clkCell
  by_cases e1 : j = k * 2 + 1
  · subst e1
    rw [if_pos rfl, if_pos (by omega), if_neg (by omega), show (k * 2 + 1) / 2 = k by omega]
  · rw [if_neg e1]
    by_cases e2 : j = k * 2
    · subst e2
      rw [if_pos rfl, if_pos (by omega), if_pos (by omega), show (k * 2) / 2 = k by omega]
    · rw [if_neg e2]
      by_cases hlt : j < k * 2
      · have h2 : j < (k + 1) * 2 := by omega
        simp only [hlt, h2, if_true]
      · rw [if_neg hlt, if_neg (by omega)]

theorem clk_made (w : World) (n : Nat) (ps : List (Int × Int)) : (w.alloc (.cells (madeCells #[.int .i32 0, .int .i32 0] (n * 2)) 42)).rowIs w.heap.size 42 (n * 2) (clkCell ps 0) := by
  refine ⟨_, blk_alloc_new _ _, size_madeCells _ _, fun i hi => ?_⟩
  simp only [madeCells, clkCell, Nat.zero_mul, Nat.not_lt_zero, if_false]
  rw [Array.getElem?_map]
  simp only [Array.getElem?_range, hi, if_true, Option.map_some, Option.some.injEq]
  rcases Nat.mod_two_eq_zero_or_one i with h | h <;> simp [h]

theorem clk_of_rowIs {w : World} {b n : Nat} {ps : List (Int × Int)} (h : w.rowIs b 42 (n * 2) (clkCell ps n)) (hn : n = ps.length) : Clk w (.slice (some ⟨b, 0, none⟩) n n) ps := by
  subst hn
  refine ⟨_, _, rfl, .inr ⟨b, rfl, fun i hi => ⟨?_, ?_⟩⟩⟩
  · rw [h.cell (by omega)]
    unfold clkCell
    rw [if_pos (by omega), if_pos (by omega), show i * 2 / 2 = i by omega]
  · rw [h.cell (by omega)]
    unfold clkCell
    rw [if_pos (by omega), if_neg (by omega), show (i * 2 + 1) / 2 = i by omega]

set_option maxHeartbeats 400000 in
theorem clock_some (b off c b' off' c' n : Nat) (xs ys : List Int) (w : World) (hn : n = (xs.zip ys).length) (hs : n ≤ 1048576)
    (hc : ∀ i, i < n → w.cell? ⟨b, off + i, none⟩ = some (.int .i32 ((xs.zip ys).getD i default).1))
    (hc' : ∀ i, i < n → w.cell? ⟨b', off' + i, none⟩ = some (.int .i32 ((xs.zip ys).getD i default).2)) :
    Calls Try.prog 19 #[.slice (some ⟨b, off, none⟩) n c, .slice (some ⟨b', off', none⟩) n c'] w fun e w' => ∃ v, e = .returned v ∧ Clk w' v (xs.zip ys) ∧ Below w.heap.size w w' := by
  have hmk := run_make_clock n hs
  have hnil := fun (w : World) (a : Option Addr) (n c n' c' : Nat) => Lib.run_eql_slice_nil (P := Try.prog) w 22 21 a n c n' c' Try.underlying22
  generalize xs.zip ys = ps at *
  have HN : Hid (n = ps.length) := hn
  clear hn
  have HC : Hid _ := hc
  have HC' : Hid _ := hc'
  clear hc hc'
  go_enter Try.func19, Try.ntmps19
  go_wp2
  go_loopg [6] n (fun g i wr => ∃ k : Nat, k ≤ n ∧ g = n - k ∧ i = .int .i64 k ∧ wr.rowIs w.heap.size 42 (n * 2) (clkCell ps k) ∧ Below w.heap.size w wr)
  case atStart => exact ⟨0, by omega, by omega, rfl, clk_made w n ps, (Below.refl _ _).alloc (Nat.le_refl _) _⟩
  case round =>
    obtain ⟨k, hk, hg, rfl, hrow, hbel⟩ := hrel
    have HG : Hid (gk = n - k) := hg
    clear hg
    by_cases hlt : k < n
    · have h1 := cell_later hbel (HC.out k hlt)
      have h2 := cell_later hbel (HC'.out k hlt)
      have h3 := hrow.cell (i := k * 2) (by omega)
      have h4 := hrow.cell (i := k * 2 + 1) (by omega)
      have h5 := hrow.frozen (k * 2)
      have h6 := hrow.frozen (k * 2 + 1)
      have hstep := ((hrow.set (k * 2) (.int .i32 (ps.getD k default).1)).set (k * 2 + 1) (.int .i32 (ps.getD k default).2)).congr (fun i _ => clk_step ps k i)
      have HS : Hid _ := hstep
      clear hstep
      go_wp2
      go_region
      go_wp2
      go_roundg (n - (k + 1))
      case measure => have := HG.out; omega
      case rel => exact ⟨k + 1, by omega, rfl, by go_num, World.rowIs.drew HS.out, ((hbel.setCell (Nat.le_refl _) _).setCell (Nat.le_refl _) _).drew⟩
    · obtain rfl : k = n := by omega
      go_wp2
      go_ret
      exact ⟨_, rfl, clk_of_rowIs hrow HN.out, hbel⟩

set_option maxHeartbeats 400000 in
theorem clock_zero (ad : Addr) (c : Nat) (v : Value) (w : World) :
    Calls Try.prog 19 #[.slice (some ad) 0 c, v] w fun e w' => ∃ v, e = .returned v ∧ Clk w' v [] ∧ Below w.heap.size w w' := by
  have hmk : ∀ w, (Instr.makeSlice 38 (.int .i64 0) (.int .i64 0)).run Try.prog w = .ok (.slice (some ⟨w.heap.size, 0, none⟩) 0 0) (w.alloc (.cells (madeCells #[.int .i32 0, .int .i32 0] (0 * 2)) 42)) :=
    run_make_clock 0 (by omega)
  have hnil := fun (w : World) (a : Option Addr) (n c n' c' : Nat) => Lib.run_eql_slice_nil (P := Try.prog) w 22 21 a n c n' c' Try.underlying22
  go_enter Try.func19, Try.ntmps19
  go_wp2
  refine wp_loop_rounds 1 ?_
  rw [rounds_succ]
  go_wp2
  go_ret
  exact ⟨_, rfl, ⟨_, _, rfl, .inl rfl⟩, (Below.refl _ _).alloc (Nat.le_refl _) _⟩

set_option maxHeartbeats 400000 in
theorem clock_nil (c : Nat) (v : Value) (w : World) :
    Calls Try.prog 19 #[.slice none 0 c, v] w fun e w' => ∃ v, e = .returned v ∧ Clk w' v [] ∧ Below w.heap.size w w' := by
  have hnil := fun (w : World) (a : Option Addr) (n c n' c' : Nat) => Lib.run_eql_slice_nil (P := Try.prog) w 22 21 a n c n' c' Try.underlying22
  go_enter Try.func19, Try.ntmps19
  go_wp2
  go_ret
  exact ⟨_, rfl, ⟨_, _, rfl, .inl rfl⟩, Below.refl _ _⟩

theorem clock_any {u v : Value} {xs ys : List Int} {w : World} (h : Row w u xs) (h' : Row w v ys) (hl : xs.length = ys.length) (hs : xs.length ≤ 1048576) :
    Calls Try.prog 19 #[u, v] w fun e w' => ∃ v, e = .returned v ∧ Clk w' v (xs.zip ys) ∧ Below w.heap.size w w' := by
  obtain ⟨a, c, rfl, hx | ⟨b, off, rfl, hc⟩⟩ := h
  · subst hx
    cases a with
    | none => exact clock_nil c v w
    | some ad => exact clock_zero ad c v w
  · obtain ⟨a', c', rfl, hy | ⟨b', off', rfl, hc'⟩⟩ := h'
    · subst hy
      obtain rfl : xs = [] := List.eq_nil_of_length_eq_zero (by simpa using hl)
      exact clock_zero _ c _ w
    · have hz : (xs.zip ys).length = xs.length := by simp [hl]
      rw [← hl]
      rw [← hl] at hc'
      refine clock_some b off c b' off' c' xs.length xs ys w hz.symm hs (fun i hi => ?_) (fun i hi => ?_)
      · rw [hc i hi, List.getD_eq_getElem?_getD, List.getD_eq_getElem?_getD, List.getElem?_eq_getElem hi, List.getElem?_eq_getElem (show i < (xs.zip ys).length by omega)]; simp
      · rw [hc' i hi, List.getD_eq_getElem?_getD, List.getD_eq_getElem?_getD, List.getElem?_eq_getElem (show i < ys.length by omega), List.getElem?_eq_getElem (show i < (xs.zip ys).length by omega)]; simp

/-! ### meet -/
/-- What 'meet' reckons: the merge walk over two clocks, by fuel. -/
def meetL : Nat → List (Int × Int) → List (Int × Int) → List (Int × Int)
  | 0, _, _ => []
  | _ + 1, [], _ => []
  | _ + 1, _, [] => []
  | f + 1, p :: ps, q :: qs =>
    if p.1 < q.1 then meetL f ps (q :: qs) else if q.1 < p.1 then meetL f (p :: ps) qs else (p.1, if q.2 < p.2 then q.2 else p.2) :: meetL f ps qs

end Go.Proofs.Qxb6603805a
