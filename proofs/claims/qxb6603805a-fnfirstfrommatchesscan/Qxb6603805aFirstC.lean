import Derived.Test.Qxb6603805aFirstB
import Derived.LaidEqlPtr
namespace Go.Proofs.Qxb6603805a.fnFirstFromMatchesScan
open Go.RowKit Go.Deep

theorem info44 : (Try.prog.info? 44).map (fun i => (i.zero, i.size, i.bytes)) = some (some (.pointer none), 1, 8) := by kernel_rfl

/-- The row of deletes, k of them made. -/
def ptrs (B k : Nat) : Nat → Value := fun j => if j < k then .pointer (some ⟨B + 1 + j, 0, none⟩) else .pointer none
theorem ptrs_step (B k j : Nat) : (if j = k then Value.pointer (some ⟨B + 1 + k, 0, none⟩) else ptrs B k j) = ptrs B (k + 1) j := by
  unfold ptrs
  by_cases e : j = k
  · subst e; simp
  · rw [if_neg e]
    by_cases hlt : j < k
    · rw [if_pos hlt, if_pos (by omega)]
    · rw [if_neg hlt, if_neg (by omega)]

theorem from_any (db n cn pb eb h : Nat) (xs : List Int) (i x : Int) (f : Nat → Int) (P : Nat → Nat) (w : World) (hn : n = xs.length) (hi : 0 ≤ i) (hi2 : i ≤ 9223372036854775807) (hL : 2 ^ h ≤ 65536) (hnL : n ≤ 2 ^ h) (hx : x ≤ top) (hx0 : -9223372036854775808 ≤ x)
    (c0 : w.cell? ⟨db, 0, none⟩ = some (.slice (some ⟨pb, 0, none⟩) n cn)) (c1 : w.cell? ⟨db, 1, none⟩ = some (.slice (some ⟨eb, 0, none⟩) (2 * 2 ^ h) (2 * 2 ^ h))) (c4 : w.cell? ⟨db, 4, none⟩ = some (.int .i64 ((2 ^ h : Nat) : Int)))
    (hp : ∀ j, j < n → w.cell? ⟨pb, j, none⟩ = some (.pointer (some ⟨P j, 0, none⟩))) (hrow : w.rowIs eb 2 (2 * 2 ^ h) (nums f)) (hseg : Seg h f) (hl : ∀ j, j < 2 ^ h → f (2 ^ h + j) = leaf xs top j) :
    Calls Try.prog 21 #[.pointer (some ⟨db, 0, none⟩), .int .i64 i, .int .i64 x] w fun e w' => ∃ r, First xs i.toNat x r ∧ e = .returned (.pointer (ptrOf P r)) ∧ Below w.heap.size w w' := by
  by_cases h1 : (n : Int) ≤ i
  · exact from_past db n cn _ xs i x w hn (by omega) h1 hi2 c0 P
  · obtain ⟨i, rfl⟩ := Int.eq_ofNat_of_zero_le hi
    rw [Int.toNat_natCast]
    exact from_in db n cn pb eb h i xs x f P w hn (by omega) hL hnL hx hx0 c0 c1 c4 hp hrow hseg hl

theorem info47 : ∃ j : TypeInfo, Try.prog.info? 47 = some j ∧ j.size ≠ 0 := by
  have h : (Try.prog.info? 47).map (fun i => i.size) = some 9 := by kernel_rfl
  obtain ⟨i, hi, hs⟩ := Option.map_eq_some_iff.1 h
  exact ⟨i, hi, by omega⟩

/-- Each delete made so far lies in a block of its own. -/
def Made (B k : Nat) (wr : World) : Prop := ∀ j, j < k → ∃ ca, wr.heap[B + 1 + j]? = some (.cells ca 47 (0, 0))

theorem Made.step {B k : Nat} {wr : World} (h : Made B k wr) (hsz : wr.heap.size = B + 1 + k) (ca : Array Value) (j : Nat) (v : Value) : Made B (k + 1) ((wr.alloc (.cells ca 47)).setCell ⟨B, j, none⟩ v) := by
  intro l hl
  rw [Below.heap_setCell _ _ _ _ (by show B + 1 + l ≠ B; omega)]
  by_cases e : l = k
  · subst e
    rw [← hsz]
    exact ⟨ca, heap_alloc_new wr _⟩
  · obtain ⟨c, hc⟩ := h l (by omega)
    exact ⟨c, by rw [Below.heap_alloc _ _ _ (by omega)]; exact hc⟩

theorem Made.later {B k : Nat} {w w' : World} (h : Made B k w) (hsz : B + 1 + k ≤ w.heap.size) (hb : Below w.heap.size w w') : Made B k w' := fun j hj => by
  obtain ⟨c, hc⟩ := h j hj
  exact ⟨c, by rw [hb.block _ (by omega)]; exact hc⟩

theorem ptr_eq (B k : Nat) (w : World) (hm : Made B k w) (l q : Nat) (hl : l < k) (hq : q < k) :
    (binOp .eql 44 (.pointer (some ⟨B + 1 + l, 0, none⟩)) (.pointer (some ⟨B + 1 + q, 0, none⟩))).run Try.prog w = .ok (.bool (decide (l = q))) w := by
  obtain ⟨j, hj, hs⟩ := info47
  by_cases e : l = q
  · subst e
    rw [run_eql_ptr_same w _ Try.underlying44 hj]
    simp
  · obtain ⟨ca, ha⟩ := hm l hl
    obtain ⟨cb, hb⟩ := hm q hq
    have hne : (⟨B + 1 + l, 0, none⟩ : Addr) ≠ ⟨B + 1 + q, 0, none⟩ := fun h => e (by have := congrArg Addr.block h; simp only at this; omega)
    rw [run_eql_ptr_other w Try.underlying44 hj hs hne ha hb]
    simp [e]

set_option maxHeartbeats 2000000 in
theorem zzfirst_some (b off c n h eb : Nat) (xs : List Int) (i x : Int) (f : Nat → Int) (w : World) (hn : n = xs.length) (hs : n ≤ 65536) (hi : 0 ≤ i) (hi2 : i ≤ 9223372036854775807) (hL : 2 ^ h ≤ 65536) (hnL : n ≤ 2 ^ h) (hx : x ≤ top) (hx0 : -9223372036854775808 ≤ x)
    (hc : ∀ i, i < n → w.cell? ⟨b, off + i, none⟩ = some (.int .i64 (xs.getD i 0)))
    (hrow : w.rowIs eb 2 (2 * 2 ^ h) (nums f)) (hseg : Seg h f) (hl : ∀ j, j < 2 ^ h → f (2 ^ h + j) = leaf xs top j) :
    Calls Try.prog 17 #[.slice (some ⟨b, off, none⟩) n c, .slice (some ⟨eb, 0, none⟩) (2 * 2 ^ h) (2 * 2 ^ h), .int .i64 ((2 ^ h : Nat) : Int), .int .i64 i, .int .i64 x] w fun e w' => ∃ r, First xs i.toNat x r ∧ e = .returned (.int .i64 r) ∧ Below w.heap.size w w' := by
  have hmk := run_make_row' (P := Try.prog) 43 44 (.pointer none) 8 Try.underlying43 info44 rfl .i64 .i64 n (by omega) (by omega)
  have HN : Hid (n = xs.length) := hn
  clear hn
  have HC : Hid _ := hc
  have HR : Hid (w.rowIs eb 2 (2 * 2 ^ h) (nums f)) := hrow
  have HS : Hid (Seg h f ∧ (∀ j, j < 2 ^ h → f (2 ^ h + j) = leaf xs top j) ∧ x ≤ top ∧ -9223372036854775808 ≤ x) := ⟨hseg, hl, hx, hx0⟩
  clear hc hrow hseg hl hx hx0
  generalize hLL : 2 ^ h = L at hL hnL
  have HL : Hid (2 ^ h = L) := hLL
  clear hLL
  go_enter Try.func17, Try.ntmps17
  go_wp2_with fail
  go_loopg [12] n (fun g v wr => ∃ k : Nat, k ≤ n ∧ g = n - k ∧ v = .int .i64 k ∧ wr.heap.size = w.heap.size + 1 + k ∧ wr.rowIs w.heap.size 44 n (ptrs w.heap.size k) ∧ Made w.heap.size k wr ∧ Below w.heap.size w wr)
  case atStart => exact ⟨0, by omega, by omega, rfl, by simp, (World.rowIs_made w _ n 44).congr (fun i _ => by simp [ptrs]), (fun j hj => by omega), (Below.refl _ _).alloc (Nat.le_refl _) _⟩
  case round =>
    obtain ⟨k, hk, hg, rfl, hsz, hrow, hmade, hbel⟩ := hrel
    have HMd : Hid (Made w.heap.size k wr) := hmade
    clear hmade
    have HG : Hid _ := hg
    have HZ : Hid (wr.heap.size = w.heap.size + 1 + k) := hsz
    clear hg
    by_cases hlt : k < n
    · have h1 := cell_later hbel (HC.out k hlt)
      have h2 : ∀ o, (wr.alloc o).cell? ⟨w.heap.size, k, none⟩ = some (ptrs w.heap.size k k) := fun o => (hrow.alloc o).cell hlt
      have h3 : ∀ o, (wr.alloc o).frozen? ⟨w.heap.size, k, none⟩ = false := fun o => (hrow.alloc o).frozen k
      have hstep := fun o => ((hrow.alloc o).set k (.pointer (some ⟨w.heap.size + 1 + k, 0, none⟩))).congr (fun i _ => ptrs_step w.heap.size k i)
      have HS1 : Hid _ := hstep
      clear hstep
      go_wp2_with fail
      go_roundg (n - (k + 1))
      case measure => have := HG.out; omega
      case rel => exact ⟨k + 1, by omega, rfl, by go_num, by simp; have := HZ.out; omega, HS1.out _, HMd.out.step HZ.out _ _ _, (hbel.alloc (by have := HZ.out; omega) _).setCell (Nat.le_refl _) _⟩
    · obtain rfl : k = n := by omega
      have hcall := fun (W : World) (hW : W = wr.alloc (.cells #[.slice (some ⟨w.heap.size, 0, none⟩) k k, .slice (some ⟨eb, 0, none⟩) (2 * L) (2 * L), .slice none 0 0, .slice none 0 0, .int .i64 (L : Int)] 50)) =>
        from_any (w.heap.size + 1 + k) k k w.heap.size eb h xs i x f (fun j => w.heap.size + 1 + j) W HN.out hi hi2 (by rw [HL.out]; exact hL) (by rw [HL.out]; exact hnL) HS.out.2.2.1 HS.out.2.2.2
          (by rw [hW, World.cell?_alloc_at (hn := HZ.out.symm)]; rfl) (by rw [hW, World.cell?_alloc_at (hn := HZ.out.symm), HL.out]; rfl) (by rw [hW, World.cell?_alloc_at (hn := HZ.out.symm), HL.out]; rfl)
          (fun j hj => by rw [hW, (hrow.alloc _).cell hj]; simp [ptrs, hj])
          (by rw [hW]; exact World.rowIs.alloc (HR.out.of_block (hbel.block _ HR.out.lt)) _) HS.out.1 HS.out.2.1
      have HCALL : Hid (∀ (W : World) (hW : W = wr.alloc (.cells #[.slice (some ⟨w.heap.size, 0, none⟩) k k, .slice (some ⟨eb, 0, none⟩) (2 * L) (2 * L), .slice none 0 0, .slice none 0 0, .int .i64 (L : Int)] 50)), 
        Calls Try.prog 21 #[.pointer (some ⟨w.heap.size + 1 + k, 0, none⟩), .int .i64 i, .int .i64 x] W fun e w' => ∃ r, First xs i.toNat x r ∧ e = .returned (.pointer (ptrOf (fun j => w.heap.size + 1 + j) r)) ∧ Below W.heap.size W w') := hcall
      clear hcall
      have hrowk : ∀ j, j < k → wr.cell? ⟨w.heap.size, j, none⟩ = some (.pointer (some ⟨w.heap.size + 1 + j, 0, none⟩)) := fun j hj => by rw [hrow.cell hj]; simp [ptrs, hj]
      have HK : Hid _ := hrowk
      clear hrowk hrow
      go_wp2_with fail
      refine (HCALL.out _ rfl).mono ?_
      rintro e w1 ⟨r, hr, rfl, hb1⟩
      have hb2 : Below w.heap.size w w1 := (hbel.alloc (by have := HZ.out; omega) _).trans (hb1.mono (by simp; have := HZ.out; omega))
      have HK1 : Hid (∀ j, j < k → w1.cell? ⟨w.heap.size, j, none⟩ = some (.pointer (some ⟨w.heap.size + 1 + j, 0, none⟩))) := fun j hj => cell_later hb1 (by rw [World.cell?_alloc_past (hn := by have := HZ.out; omega)]; exact HK.out j hj)
      have HM1 : Hid (Made w.heap.size k w1) := Made.later (fun j hj => by obtain ⟨c, hc⟩ := HMd.out j hj; exact ⟨c, by rw [Below.heap_alloc _ _ _ (by have := HZ.out; omega)]; exact hc⟩) (by simp; have := HZ.out; omega) hb1
      clear HK HCALL hb1 hbel HMd
      have HF : Hid (First xs i.toNat x r) := hr
      rcases hr with ⟨q, q1, q2, _, _, rfl⟩ | ⟨_, rfl⟩
      · have hq : q < k := by rw [HN.out]; exact q2
        have e1 : ptrOf (fun j => w.heap.size + 1 + j) (q : Int) = some ⟨w.heap.size + 1 + q, 0, none⟩ := by simp [ptrOf]
        rw [e1]
        clear e1 q1 q2
        go_wp2_with fail
        go_loopg [15] k (fun g v wr' => ∃ l : Nat, l ≤ q ∧ g = k - l ∧ v = .int .i64 l ∧ wr' = w1)
        case atStart => exact ⟨0, by omega, by omega, rfl, rfl⟩
        case round =>
          obtain ⟨l, hl, hg2, rfl, rfl⟩ := hrel
          have HG2 : Hid _ := hg2
          clear hg2
          have hcell := HK1.out l (by omega)
          have heq := ptr_eq w.heap.size k _ HM1.out l q (by omega) hq
          by_cases hlq : l = q
          · subst hlq
            rw [decide_eq_true rfl] at heq
            go_wp2_with fail
            go_ret
            exact ⟨_, HF.out, rfl, hb2⟩
          · rw [decide_eq_false hlq] at heq
            go_wp2_with fail
            go_roundg (k - (l + 1))
            case measure => have := HG2.out; omega
            case rel => exact ⟨l + 1, by omega, rfl, by go_num, rfl⟩
      · have e1 : ptrOf (fun j => w.heap.size + 1 + j) (-1) = none := by simp [ptrOf]
        rw [e1]
        clear e1
        go_wp2_with fail
        go_ret
        exact ⟨-1, HF.out, rfl, hb2⟩

set_option maxHeartbeats 1000000 in
/-- No delete at all. -/
theorem zzfirst_zero (a a2 : Option Addr) (c n2 c2 : Nat) (L i x : Int) (w : World) (hi : 0 ≤ i) (hi2 : i ≤ 9223372036854775807) :
    Calls Try.prog 17 #[.slice a 0 c, .slice a2 n2 c2, .int .i64 L, .int .i64 i, .int .i64 x] w fun e w' => ∃ r, First [] i.toNat x r ∧ e = .returned (.int .i64 r) ∧ Below w.heap.size w w' := by
  have hmk : ∀ w, (Instr.makeSlice 43 (.int .i64 0) (.int .i64 0)).run Try.prog w = .ok (.slice (some ⟨w.heap.size, 0, none⟩) 0 0) (w.alloc (.cells (madeCells #[.pointer none] 0) 44)) :=
    run_make_row' (P := Try.prog) 43 44 (.pointer none) 8 Try.underlying43 info44 rfl .i64 .i64 0 (by omega) (by omega)
  go_enter Try.func17, Try.ntmps17
  go_wp2_with fail
  refine wp_loop_rounds 1 ?_
  rw [rounds_succ]
  go_wp2_with fail
  have e0 : ∀ W : World, W = ((w.alloc (.cells (madeCells #[.pointer none] 0) 44)).alloc (.cells #[.slice (some ⟨w.heap.size, 0, none⟩) 0 0, .slice a2 n2 c2, .slice none 0 0, .slice none 0 0, .int .i64 L] 50)) →
      Calls Try.prog 21 #[.pointer (some ⟨w.heap.size + 1, 0, none⟩), .int .i64 i, .int .i64 x] W fun e w' => ∃ r, First [] i.toNat x r ∧ e = .returned (.pointer (ptrOf (fun _ => 0) r)) ∧ Below W.heap.size W w' := fun W hW =>
    from_past (w.heap.size + 1) 0 0 (some ⟨w.heap.size, 0, none⟩) [] i x W rfl (by omega) (by omega) hi2 (by rw [hW, World.cell?_alloc_at (hn := by simp)]; rfl) (fun _ => 0)
  refine (e0 _ rfl).mono ?_
  rintro e w1 ⟨r, hr, rfl, hb1⟩
  have hb2 : Below w.heap.size w w1 := (((Below.refl _ _).alloc (Nat.le_refl _) _).alloc (by simp) _).trans (hb1.mono (by simp; omega))
  have HF : Hid (First [] i.toNat x r) := hr
  rcases hr with ⟨q, _, q2, _⟩ | ⟨_, rfl⟩
  · simp at q2
  · have e1 : ptrOf (fun _ => 0) (-1) = none := by simp [ptrOf]
    rw [e1]
    clear e1 e0
    go_wp2_with fail
    go_ret
    exact ⟨-1, HF.out, rfl, hb2⟩

theorem zzfirst_any {v : Value} {xs : List Int} {w : World} (hr : Row w v xs) (h eb : Nat) (i x : Int) (f : Nat → Int) (hs : xs.length ≤ 65536) (hi : 0 ≤ i) (hi2 : i ≤ 9223372036854775807) (hL : 2 ^ h ≤ 65536) (hnL : xs.length ≤ 2 ^ h) (hx : x ≤ top) (hx0 : -9223372036854775808 ≤ x)
    (hrow : w.rowIs eb 2 (2 * 2 ^ h) (nums f)) (hseg : Seg h f) (hl : ∀ j, j < 2 ^ h → f (2 ^ h + j) = leaf xs top j) :
    Calls Try.prog 17 #[v, .slice (some ⟨eb, 0, none⟩) (2 * 2 ^ h) (2 * 2 ^ h), .int .i64 ((2 ^ h : Nat) : Int), .int .i64 i, .int .i64 x] w fun e w' => ∃ r, First xs i.toNat x r ∧ e = .returned (.int .i64 r) ∧ Below w.heap.size w w' := by
  obtain ⟨a, c, rfl, hx' | ⟨b, off, rfl, hc⟩⟩ := hr
  · subst hx'
    exact zzfirst_zero a _ c _ _ _ i x w hi hi2
  · exact zzfirst_some b off c _ h eb xs i x f w rfl hs hi hi2 hL hnL hx hx0 hc hrow hseg hl

set_option maxHeartbeats 1000000 in
theorem walk_in (a : Option Addr) (n c : Nat) (xs : List Int) (L i x : Int) (w : World) (hn : n ≤ maxLen) (hr : Row w (.slice a n c) xs) (hl : xs.length = n)
    (hL1 : -9223372036854775808 ≤ L) (hL2 : L ≤ 9223372036854775807) (hi1 : -9223372036854775808 ≤ i) (hi2 : i ≤ 9223372036854775807) (hx1 : -9223372036854775808 ≤ x) (hx2 : x ≤ 9223372036854775807) :
    Calls Try.prog 5 #[.slice a n c, .int .i64 L, .int .i64 i, .int .i64 x] w fun e w' => e = .returned (.bool true) ∧ Below w.heap.size w w' := by
  have hB := bytes_any a n c (.int .i64 L) (.int .i64 i) (.int .i64 x) hn
  have HB : Hid (∀ w, Calls Try.prog 13 #[.slice a n c, .int .i64 L, .int .i64 i, .int .i64 x] w fun e w' => ∃ b, e = .returned (.bool b) ∧ w = w') := hB
  have HX : Hid (x ≤ top) := hx2
  have HLn : Hid (xs.length = n) := hl
  clear hB hl
  unfold maxLen at hn
  by_cases hbig : n ≤ 65536
  · go_enter Try.func5, Try.ntmps5
    go_wp2_with fail
    refine (HB.out _).mono ?_
    rintro e w' ⟨b, rfl, rfl⟩
    cases b
    · go_wp2_with fail
      go_ret
      exact ⟨rfl, Below.refl _ _⟩
    go_wp2_with fail
    refine (leaves_any n L hbig hL1 hL2 _).mono ?_
    rintro e w' ⟨b, rfl, hp, rfl⟩
    cases b
    · clear hp
      go_wp2_with fail
      go_ret
      exact ⟨rfl, Below.refl _ _⟩
    obtain ⟨h, hLh, h1, h2⟩ := hp rfl
    subst hLh
    clear hL1 hL2
    by_cases hneg : i < 0
    · go_wp2_with fail
      go_ret
      exact ⟨rfl, Below.refl _ _⟩
    have hi0 : 0 ≤ i := by omega
    go_wp2_with fail
    refine (clone_any hr (by rw [HLn.out]; omega)).mono ?_
    rintro e w1 ⟨v, rfl, hr1, hb1⟩
    go_wp2_with fail
    refine (earliest_any hr1 h h1 (by rw [HLn.out]; exact h2)).mono ?_
    rintro e w2 ⟨f, rfl, hrow, hseg, hlf, hb2⟩
    have HF : Hid (Seg h f ∧ (∀ j, j < 2 ^ h → f (2 ^ h + j) = leaf xs top j)) := ⟨hseg, hlf⟩
    clear hseg hlf
    go_wp2_with fail
    refine (zzfirst_any (hr1.later hb2) h w1.heap.size i x f (by rw [HLn.out]; exact hbig) hi0 hi2 h1 (by rw [HLn.out]; exact h2) HX.out hx1 hrow HF.out.1 HF.out.2).mono ?_
    rintro e w3 ⟨r, hfr, rfl, hb3⟩
    have HR : Hid (First xs i.toNat x r) := hfr
    clear hfr
    go_wp2_with fail
    refine (scan_any ((hr1.later hb2).later hb3) (by rw [HLn.out]; exact hbig) i x hi0 hi2).mono ?_
    rintro e w4 ⟨r', rfl, hfr, rfl⟩
    obtain rfl := HR.out.unique hfr
    clear hfr
    go_wp2_with fail
    go_ret
    exact ⟨by simp, below_trans (below_trans hb1 hb2) hb3⟩
  · go_enter Try.func5, Try.ntmps5
    go_wp2_with fail
    refine (HB.out _).mono ?_
    rintro e w' ⟨b, rfl, rfl⟩
    cases b
    · go_wp2_with fail
      go_ret
      exact ⟨rfl, Below.refl _ _⟩
    · go_wp2_with fail
      go_ret
      exact ⟨rfl, Below.refl _ _⟩
end Go.Proofs.Qxb6603805a.fnFirstFromMatchesScan
