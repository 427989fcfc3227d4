import Derived.Test.Qxb6603805aFirstBase
namespace Go.Proofs.Qxb6603805a.fnFirstFromMatchesScan
open Go.RowKit Go.Deep

set_option maxHeartbeats 400000 in
theorem bytes_any (a : Option Addr) (n c : Nat) (x y z : Value) (w0 : n ≤ maxLen) (w : World) :
    Calls Try.prog 13 #[.slice a n c, x, y, z] w fun e w' => ∃ b, e = .returned (.bool b) ∧ w = w' := by
  unfold maxLen at *
  go_enter Try.func13, Try.ntmps13
  go_wp2
  all_goals go_ret
  all_goals exact ⟨_, rfl, rfl⟩

theorem and_nat (L : Nat) (h0 : 0 < L) (h : L ≤ 65536) : bits .and .i64 (L : Int) ((L : Int) - 1) = ((L &&& (L - 1) : Nat) : Int) := by
  have e : (L : Int) - 1 = ((L - 1 : Nat) : Int) := by omega
  rw [e]
  have hx : L &&& (L - 1) < 2 ^ 17 := Nat.and_lt_two_pow _ (by omega)
  have h1 : (BitVec.ofInt 64 (L : Int)).toNat = L := by
    rw [BitVec.ofInt_natCast, BitVec.toNat_ofNat]; exact Nat.mod_eq_of_lt (by omega)
  have h2 : (BitVec.ofInt 64 ((L - 1 : Nat) : Int)).toNat = L - 1 := by
    rw [BitVec.ofInt_natCast, BitVec.toNat_ofNat]; exact Nat.mod_eq_of_lt (by omega)
  show IntKind.i64.wrap ((BitVec.ofInt 64 (L : Int) &&& BitVec.ofInt 64 ((L - 1 : Nat) : Int)).toNat : Int) = _
  rw [BitVec.toNat_and, h1, h2, IntKind.wrap_i64]
  omega

/-- What 'true' of zzLeavesOK tells. -/
def PowOf (b : Bool) (n : Nat) (L : Int) : Prop := b = true → ∃ h : Nat, L = ((2 ^ h : Nat) : Int) ∧ 2 ^ h ≤ 65536 ∧ n ≤ 2 ^ h

set_option maxHeartbeats 400000 in
theorem leaves_any (n : Nat) (L : Int) (_hn : n ≤ 65536) (h1 : -9223372036854775808 ≤ L) (h2 : L ≤ 9223372036854775807) (w : World) :
    Calls Try.prog 14 #[.int .i64 n, .int .i64 L] w fun e w' => ∃ b, e = .returned (.bool b) ∧ PowOf b n L ∧ w = w' := by
  by_cases c1 : 1 ≤ L
  · by_cases c2 : L ≤ 65536
    · by_cases c3 : (n : Int) ≤ L
      · obtain ⟨l, rfl⟩ := Int.eq_ofNat_of_zero_le (by omega : 0 ≤ L)
        have hb := and_nat l (by omega) (by omega)
        generalize hq : bits .and .i64 (l : Int) ((l : Int) - 1) = q at hb
        have HQ : Hid _ := hq
        have HB : Hid _ := hb
        clear hb
        go_enter Try.func14, Try.ntmps14
        go_wp2
        go_ret
        refine ⟨_, rfl, fun ht => ?_, rfl⟩
        have hq0 : q = 0 := by simpa using ht
        obtain ⟨h, hh⟩ := isPow (L := l) (by omega) (by have := HB.out; omega)
        subst hh
        exact ⟨h, rfl, by omega, by omega⟩
      · go_enter Try.func14, Try.ntmps14
        go_wp2
        go_ret
        exact .inl ⟨rfl, (fun h => by cases h), rfl⟩
    · go_enter Try.func14, Try.ntmps14
      go_wp2
      go_ret
      exact .inl ⟨rfl, (fun h => by cases h), rfl⟩
  · go_enter Try.func14, Try.ntmps14
    go_wp2
    go_ret
    exact .inl ⟨rfl, (fun h => by cases h), rfl⟩

/-! ### zzScanFirst -/
set_option maxHeartbeats 400000 in
theorem scan_some (b off c n : Nat) (xs : List Int) (i : Int) (x : Int) (w : World) (hn : n = xs.length) (hs : n ≤ 65536) (hi : 0 ≤ i) (hi2 : i ≤ 9223372036854775807)
    (hc : ∀ i, i < n → w.cell? ⟨b, off + i, none⟩ = some (.int .i64 (xs.getD i 0))) :
    Calls Try.prog 18 #[.slice (some ⟨b, off, none⟩) n c, .int .i64 i, .int .i64 x] w fun e w' => ∃ r, e = .returned (.int .i64 r) ∧ First xs i.toNat x r ∧ w = w' := by
  obtain ⟨i, rfl⟩ := Int.eq_ofNat_of_zero_le hi
  rw [Int.toNat_natCast]
  have HN : Hid (n = xs.length) := hn
  clear hn
  have HC : Hid _ := hc
  clear hc
  go_enter Try.func18, Try.ntmps18
  go_wp2
  go_loopg [7] (n - i) (fun g v wr => ∃ k : Nat, g = n - k ∧ v = .int .i64 k ∧ i ≤ k ∧ (k : Int) ≤ 9223372036854775807 ∧ (∀ j, i ≤ j → j < k → j < n → x ≤ xs.getD j 0) ∧ wr = w)
  case atStart => exact ⟨i, by omega, rfl, Nat.le_refl _, by omega, fun j j1 j2 => by omega, rfl⟩
  case round =>
    obtain ⟨k, hg, rfl, hik, hk63, hall, rfl⟩ := hrel
    have HG : Hid (gk = n - k) := hg
    clear hg
    have HA : Hid _ := hall
    clear hall
    by_cases hlt : k < n
    · have h1 := HC.out k hlt
      generalize hy : xs.getD k 0 = y at h1
      have HY : Hid _ := hy
      clear hy
      by_cases hxy : y < x
      · go_wp2
        go_ret
        exact ⟨_, rfl, .inl ⟨k, hik, by rw [← HN.out]; exact hlt, by rw [HY.out]; exact hxy, fun j j1 j2 => HA.out j j1 j2 (by omega), rfl⟩, rfl⟩
      · go_wp2
        go_roundg (n - (k + 1))
        case measure => have := HG.out; omega
        case rel =>
          refine ⟨k + 1, rfl, by go_num, by omega, by omega, fun j j1 j2 j3 => ?_, rfl⟩
          by_cases e : j = k
          · subst e; rw [HY.out]; omega
          · exact HA.out j j1 (by omega) j3
    · go_wp2
      go_ret
      exact ⟨_, rfl, .inr ⟨fun j j1 j2 => HA.out j j1 (by have := HN.out; omega) (by rw [HN.out]; exact j2), rfl⟩, rfl⟩

theorem scan_any {v : Value} {xs : List Int} {w : World} (h : Row w v xs) (hs : xs.length ≤ 65536) (i x : Int) (hi : 0 ≤ i) (hi2 : i ≤ 9223372036854775807) :
    Calls Try.prog 18 #[v, .int .i64 i, .int .i64 x] w fun e w' => ∃ r, e = .returned (.int .i64 r) ∧ First xs i.toNat x r ∧ w = w' := by
  obtain ⟨a, c, rfl, hx | ⟨b, off, rfl, hc⟩⟩ := h
  · subst hx
    obtain ⟨i, rfl⟩ := Int.eq_ofNat_of_zero_le hi
    go_enter Try.func18, Try.ntmps18
    go_wp2
    refine wp_loop_rounds 1 ?_
    rw [rounds_succ]
    go_wp2
    go_ret
    exact ⟨_, rfl, .inr ⟨fun j j1 j2 => by simp at j2, rfl⟩, rfl⟩
  · exact scan_some b off c _ xs i x w rfl hs hi hi2 hc

/-! ### zzEarliest -/
/-- The greatest int64: what a leaf past the last delete holds. -/
def top : Int := 9223372036854775807

/-- The row that holds the tree, as numbers. -/
def nums (f : Nat → Int) : Nat → Value := fun i => .int .i64 (f i)

theorem nums_set (f : Nat → Int) (k : Nat) (x : Int) (j : Nat) : (if j = k then Value.int .i64 x else nums f j) = nums (fun i => if i = k then x else f i) j := by
  unfold nums; by_cases e : j = k <;> simp [e]

set_option maxHeartbeats 1000000 in
theorem earliest_some (b off c n h : Nat) (xs : List Int) (w : World) (hn : n = xs.length) (hs : 2 ^ h ≤ 65536) (hnL : n ≤ 2 ^ h)
    (hc : ∀ i, i < n → w.cell? ⟨b, off + i, none⟩ = some (.int .i64 (xs.getD i 0))) :
    Calls Try.prog 16 #[.slice (some ⟨b, off, none⟩) n c, .int .i64 ((2 ^ h : Nat) : Int)] w fun e w' => ∃ f, e = .returned (.slice (some ⟨w.heap.size, 0, none⟩) (2 * 2 ^ h) (2 * 2 ^ h)) ∧
      w'.rowIs w.heap.size 2 (2 * 2 ^ h) (nums f) ∧ Seg h f ∧ (∀ j, j < 2 ^ h → f (2 ^ h + j) = leaf xs top j) ∧ Below w.heap.size w w' := by
  have hmk := run_make_row' (P := Try.prog) 30 2 (.int .i64 0) 8 Try.underlying30 info2 rfl .i64 .i64 (2 * 2 ^ h) (by omega) (by omega)
  have hpos := two_pow_pos h
  have HN : Hid (n = xs.length) := hn
  clear hn
  have HC : Hid _ := hc
  clear hc
  generalize hL : 2 ^ h = L at *
  have HL : Hid _ := hL
  clear hL
  have e2 : ((2 * L : Nat) : Int) = 2 * (L : Int) := by omega
  rw [e2] at hmk
  clear e2
  go_enter Try.func16, Try.ntmps16
  go_wp2
  go_loopg [6] (2 * L) (fun g i wr => ∃ (k : Nat) (f : Nat → Int), k ≤ 2 * L ∧ g = 2 * L - k ∧ i = .int .i64 k ∧ wr.rowIs w.heap.size 2 (2 * L) (nums f) ∧ (∀ j, j < k → f j = top) ∧ Below w.heap.size w wr)
  case atStart => exact ⟨0, fun _ => 0, by omega, by omega, rfl, World.rowIs_made w _ _ 2, fun j hj => by omega, (Below.refl _ _).alloc (Nat.le_refl _) _⟩
  case round =>
    obtain ⟨k, f, hk, hg, rfl, hrow, hall, hbel⟩ := hrel
    have HG : Hid _ := hg
    have HA : Hid _ := hall
    clear hg hall
    by_cases hlt : k < 2 * L
    · have h2 := hrow.cell hlt
      have h3 := hrow.frozen k
      have hstep := (hrow.set k (.int .i64 top)).congr (fun i _ => nums_set f k top i)
      have HS : Hid _ := hstep
      clear hstep
      go_wp2
      go_roundg (2 * L - (k + 1))
      case measure => have := HG.out; omega
      case rel =>
        refine ⟨k + 1, _, by omega, rfl, by go_num, HS.out, fun j hj => ?_, hbel.setCell (Nat.le_refl _) _⟩
        by_cases e : j = k
        · rw [if_pos e]
        · rw [if_neg e]; exact HA.out j (by omega)
    · have hl0 : ∀ j, j < L → f (L + j) = if j < 0 then xs.getD j 0 else top := fun j hj => by rw [if_neg (by omega)]; exact HA.out _ (by omega)
      have HL0 : Hid _ := hl0
      clear hl0 HA HG
      have hrow0 := hrow
      have hbel0 := hbel
      obtain ⟨w0, hw0⟩ : ∃ w0 : World, w0 = wr := ⟨_, rfl⟩
      subst hw0
      go_wp2
      go_loopg [7] n (fun g i wr => ∃ (k : Nat) (f : Nat → Int), k ≤ n ∧ g = n - k ∧ i = .int .i64 k ∧ wr.rowIs w.heap.size 2 (2 * L) (nums f) ∧ (∀ j, j < L → f (L + j) = if j < k then xs.getD j 0 else top) ∧ Below w.heap.size w wr)
      case atStart => exact ⟨0, f, by omega, by omega, rfl, hrow0, HL0.out, hbel0⟩
      case round =>
        clear hrow0 hbel0 HL0 hrow hbel hlt hk
        obtain ⟨k, f, hk, hg, rfl, hrow, hall, hbel⟩ := hrel
        have HG : Hid _ := hg
        have HA : Hid _ := hall
        clear hg hall
        by_cases hlt : k < n
        · have h1 := cell_later hbel (HC.out k hlt)
          have h2 := hrow.cell (i := L + k) (by omega)
          have h3 := hrow.frozen (L + k)
          have hstep := (hrow.set (L + k) (.int .i64 (xs.getD k 0))).congr (fun i _ => nums_set f (L + k) (xs.getD k 0) i)
          have HS : Hid _ := hstep
          clear hstep
          go_wp2
          go_roundg (n - (k + 1))
          case measure => have := HG.out; omega
          case rel =>
            refine ⟨k + 1, _, by omega, rfl, by go_num, HS.out, fun j hj => ?_, hbel.setCell (Nat.le_refl _) _⟩
            by_cases e : j = k
            · subst e; rw [if_pos rfl, if_pos (by omega)]
            · rw [if_neg (by omega), HA.out j hj]
              by_cases hjk : j < k
              · rw [if_pos hjk, if_pos (by omega)]
              · rw [if_neg hjk, if_neg (by omega)]
        · have hl0 : ∀ j, j < L → f (L + j) = leaf xs top j := fun j hj => by
            have e : k = xs.length := by have := HN.out; omega
            rw [HA.out j hj, e]; rfl
          have HL0 : Hid _ := hl0
          clear hl0 HA HG
          have hrow0 := hrow
          have hbel0 := hbel
          obtain ⟨w0, hw0⟩ : ∃ w0 : World, w0 = wr := ⟨_, rfl⟩
          subst hw0
          go_wp2
          go_loopg [8] (L - 1) (fun g i wr => ∃ (k : Nat) (f : Nat → Int), k < L ∧ g = k ∧ i = .int .i64 k ∧ wr.rowIs w.heap.size 2 (2 * L) (nums f) ∧ (∀ j, j < L → f (L + j) = leaf xs top j) ∧
            (∀ m, k < m → m < L → f m = if f (2 * m + 1) < f (2 * m) then f (2 * m + 1) else f (2 * m)) ∧ Below w.heap.size w wr)
          case atStart => exact ⟨L - 1, f, by omega, rfl, by go_num, hrow0, HL0.out, fun m m1 m2 => by omega, hbel0⟩
          case round =>
            clear hrow0 hbel0 HL0 hrow hbel hlt hk
            obtain ⟨k, f, hk, hg, rfl, hrow, hall, hseg, hbel⟩ := hrel
            have HG : Hid _ := hg
            have HA : Hid _ := hall
            have HS0 : Hid _ := hseg
            clear hg hall hseg
            by_cases hlt : 1 ≤ k
            · have h1 := hrow.cell (i := 2 * k) (by omega)
              have h2 := hrow.cell (i := 2 * k + 1) (by omega)
              have h3 := hrow.cell (i := k) (by omega)
              have h4 := hrow.frozen k
              have hstep := fun x : Int => (hrow.set k (.int .i64 x)).congr (fun i _ => nums_set f k x i)
              have hnew : ∀ x, x = (if f (2 * k + 1) < f (2 * k) then f (2 * k + 1) else f (2 * k)) → ∃ f' : Nat → Int, (wr.setCell ⟨w.heap.size, k, none⟩ (.int .i64 x)).rowIs w.heap.size 2 (2 * L) (nums f') ∧
                  (∀ j, j < L → f' (L + j) = leaf xs top j) ∧ (∀ m, k - 1 < m → m < L → f' m = if f' (2 * m + 1) < f' (2 * m) then f' (2 * m + 1) else f' (2 * m)) := by
                intro x hx
                refine ⟨_, hstep x, fun j hj => ?_, fun m m1 m2 => ?_⟩
                · rw [if_neg (by omega)]; exact HA.out j hj
                · rw [if_neg (by omega : ¬ 2 * m + 1 = k), if_neg (by omega : ¬ 2 * m = k)]
                  by_cases e : m = k
                  · subst e; rw [if_pos rfl]; exact hx
                  · rw [if_neg e]; exact HS0.out m (by omega) m2
              have HS : Hid _ := hnew
              clear hstep hnew
              have e1 : nums f (2 * k) = .int .i64 (f (2 * k)) := rfl
              have e2 : nums f (2 * k + 1) = .int .i64 (f (2 * k + 1)) := rfl
              rw [e1] at h1
              rw [e2] at h2
              clear e1 e2
              generalize f (2 * k) = x at *
              generalize f (2 * k + 1) = y at *
              generalize nums f k = z at *
              have ek : ((k : Int) - 1) = ((k - 1 : Nat) : Int) := by omega
              have EK : Hid _ := ek
              clear ek
              by_cases hxy : y < x
              · obtain ⟨f', r1, r2, r3⟩ := HS.out y (by rw [if_pos hxy])
                have HF : Hid _ := And.intro r1 (And.intro r2 r3)
                clear r1 r2 r3
                go_wp2
                go_roundg (k - 1)
                case measure => have := HG.out; omega
                case rel => exact ⟨k - 1, f', by omega, rfl, by rw [EK.out], HF.out.1, HF.out.2.1, HF.out.2.2, hbel.setCell (Nat.le_refl _) _⟩
              · obtain ⟨f', r1, r2, r3⟩ := HS.out x (by rw [if_neg hxy])
                have HF : Hid _ := And.intro r1 (And.intro r2 r3)
                clear r1 r2 r3
                go_wp2
                go_roundg (k - 1)
                case measure => have := HG.out; omega
                case rel => exact ⟨k - 1, f', by omega, rfl, by rw [EK.out], HF.out.1, HF.out.2.1, HF.out.2.2, hbel.setCell (Nat.le_refl _) _⟩
            · go_wp2
              go_ret
              exact ⟨f, rfl, hrow, fun m m1 m2 => HS0.out m (by omega) (by rw [← HL.out]; exact m2), HA.out, hbel⟩
set_option maxHeartbeats 1000000 in
theorem earliest_zero (a : Option Addr) (c h : Nat) (w : World) (hs : 2 ^ h ≤ 65536) :
    Calls Try.prog 16 #[.slice a 0 c, .int .i64 ((2 ^ h : Nat) : Int)] w fun e w' => ∃ f, e = .returned (.slice (some ⟨w.heap.size, 0, none⟩) (2 * 2 ^ h) (2 * 2 ^ h)) ∧
      w'.rowIs w.heap.size 2 (2 * 2 ^ h) (nums f) ∧ Seg h f ∧ (∀ j, j < 2 ^ h → f (2 ^ h + j) = leaf [] top j) ∧ Below w.heap.size w w' := by
  have hmk := run_make_row' (P := Try.prog) 30 2 (.int .i64 0) 8 Try.underlying30 info2 rfl .i64 .i64 (2 * 2 ^ h) (by omega) (by omega)
  have hpos := two_pow_pos h
  generalize hL : 2 ^ h = L at *
  have HL : Hid _ := hL
  clear hL
  have e2 : ((2 * L : Nat) : Int) = 2 * (L : Int) := by omega
  rw [e2] at hmk
  clear e2
  go_enter Try.func16, Try.ntmps16
  go_wp2
  go_loopg [6] (2 * L) (fun g i wr => ∃ (k : Nat) (f : Nat → Int), k ≤ 2 * L ∧ g = 2 * L - k ∧ i = .int .i64 k ∧ wr.rowIs w.heap.size 2 (2 * L) (nums f) ∧ (∀ j, j < k → f j = top) ∧ Below w.heap.size w wr)
  case atStart => exact ⟨0, fun _ => 0, by omega, by omega, rfl, World.rowIs_made w _ _ 2, fun j hj => by omega, (Below.refl _ _).alloc (Nat.le_refl _) _⟩
  case round =>
    obtain ⟨k, f, hk, hg, rfl, hrow, hall, hbel⟩ := hrel
    have HG : Hid _ := hg
    have HA : Hid _ := hall
    clear hg hall
    by_cases hlt : k < 2 * L
    · have h2 := hrow.cell hlt
      have h3 := hrow.frozen k
      have hstep := (hrow.set k (.int .i64 top)).congr (fun i _ => nums_set f k top i)
      have HS : Hid _ := hstep
      clear hstep
      go_wp2
      go_roundg (2 * L - (k + 1))
      case measure => have := HG.out; omega
      case rel =>
        refine ⟨k + 1, _, by omega, rfl, by go_num, HS.out, fun j hj => ?_, hbel.setCell (Nat.le_refl _) _⟩
        by_cases e : j = k
        · rw [if_pos e]
        · rw [if_neg e]; exact HA.out j (by omega)
    · have hl0 : ∀ j, j < L → f (L + j) = leaf [] top j := fun j hj => by rw [HA.out _ (by omega)]; rfl
      have HL0 : Hid _ := hl0
      clear hl0 HA HG
      have hrow0 := hrow
      have hbel0 := hbel
      obtain ⟨w0, hw0⟩ : ∃ w0 : World, w0 = wr := ⟨_, rfl⟩
      subst hw0
      go_wp2
      refine wp_loop_rounds 1 ?_
      rw [rounds_succ]
      go_wp2
      go_loopg [8] (L - 1) (fun g i wr => ∃ (k : Nat) (f : Nat → Int), k < L ∧ g = k ∧ i = .int .i64 k ∧ wr.rowIs w.heap.size 2 (2 * L) (nums f) ∧ (∀ j, j < L → f (L + j) = leaf [] top j) ∧
        (∀ m, k < m → m < L → f m = if f (2 * m + 1) < f (2 * m) then f (2 * m + 1) else f (2 * m)) ∧ Below w.heap.size w wr)
      case atStart => exact ⟨L - 1, f, by omega, rfl, by go_num, hrow0, HL0.out, fun m m1 m2 => by omega, hbel0⟩
      case round =>
        clear hrow0 hbel0 HL0 hrow hbel hlt hk
        obtain ⟨k, f, hk, hg, rfl, hrow, hall, hseg, hbel⟩ := hrel
        have HG : Hid _ := hg
        have HA : Hid _ := hall
        have HS0 : Hid _ := hseg
        clear hg hall hseg
        by_cases hlt : 1 ≤ k
        · have h1 := hrow.cell (i := 2 * k) (by omega)
          have h2 := hrow.cell (i := 2 * k + 1) (by omega)
          have h3 := hrow.cell (i := k) (by omega)
          have h4 := hrow.frozen k
          have hstep := fun x : Int => (hrow.set k (.int .i64 x)).congr (fun i _ => nums_set f k x i)
          have hnew : ∀ x, x = (if f (2 * k + 1) < f (2 * k) then f (2 * k + 1) else f (2 * k)) → ∃ f' : Nat → Int, (wr.setCell ⟨w.heap.size, k, none⟩ (.int .i64 x)).rowIs w.heap.size 2 (2 * L) (nums f') ∧
              (∀ j, j < L → f' (L + j) = leaf [] top j) ∧ (∀ m, k - 1 < m → m < L → f' m = if f' (2 * m + 1) < f' (2 * m) then f' (2 * m + 1) else f' (2 * m)) := by
            intro x hx
            refine ⟨_, hstep x, fun j hj => ?_, fun m m1 m2 => ?_⟩
            · rw [if_neg (by omega)]; exact HA.out j hj
            · rw [if_neg (by omega : ¬ 2 * m + 1 = k), if_neg (by omega : ¬ 2 * m = k)]
              by_cases e : m = k
              · subst e; rw [if_pos rfl]; exact hx
              · rw [if_neg e]; exact HS0.out m (by omega) m2
          have HS : Hid _ := hnew
          clear hstep hnew
          have e1 : nums f (2 * k) = .int .i64 (f (2 * k)) := rfl
          have e2 : nums f (2 * k + 1) = .int .i64 (f (2 * k + 1)) := rfl
          rw [e1] at h1
          rw [e2] at h2
          clear e1 e2
          generalize f (2 * k) = x at *
          generalize f (2 * k + 1) = y at *
          generalize nums f k = z at *
          have ek : ((k : Int) - 1) = ((k - 1 : Nat) : Int) := by omega
          have EK : Hid _ := ek
          clear ek
          by_cases hxy : y < x
          · obtain ⟨f', r1, r2, r3⟩ := HS.out y (by rw [if_pos hxy])
            have HF : Hid _ := And.intro r1 (And.intro r2 r3)
            clear r1 r2 r3
            go_wp2
            go_roundg (k - 1)
            case measure => have := HG.out; omega
            case rel => exact ⟨k - 1, f', by omega, rfl, by rw [EK.out], HF.out.1, HF.out.2.1, HF.out.2.2, hbel.setCell (Nat.le_refl _) _⟩
          · obtain ⟨f', r1, r2, r3⟩ := HS.out x (by rw [if_neg hxy])
            have HF : Hid _ := And.intro r1 (And.intro r2 r3)
            clear r1 r2 r3
            go_wp2
            go_roundg (k - 1)
            case measure => have := HG.out; omega
            case rel => exact ⟨k - 1, f', by omega, rfl, by rw [EK.out], HF.out.1, HF.out.2.1, HF.out.2.2, hbel.setCell (Nat.le_refl _) _⟩
        · go_wp2
          go_ret
          exact ⟨f, rfl, hrow, fun m m1 m2 => HS0.out m (by omega) (by rw [← HL.out]; exact m2), HA.out, hbel⟩

theorem earliest_any {v : Value} {xs : List Int} {w : World} (hr : Row w v xs) (h : Nat) (hs : 2 ^ h ≤ 65536) (hnL : xs.length ≤ 2 ^ h) :
    Calls Try.prog 16 #[v, .int .i64 ((2 ^ h : Nat) : Int)] w fun e w' => ∃ f, e = .returned (.slice (some ⟨w.heap.size, 0, none⟩) (2 * 2 ^ h) (2 * 2 ^ h)) ∧
      w'.rowIs w.heap.size 2 (2 * 2 ^ h) (nums f) ∧ Seg h f ∧ (∀ j, j < 2 ^ h → f (2 ^ h + j) = leaf xs top j) ∧ Below w.heap.size w w' := by
  obtain ⟨a, c, rfl, hx | ⟨b, off, rfl, hc⟩⟩ := hr
  · subst hx
    exact earliest_zero a c h w hs
  · exact earliest_some b off c _ h xs w rfl hs hnL hc
end Go.Proofs.Qxb6603805a.fnFirstFromMatchesScan
