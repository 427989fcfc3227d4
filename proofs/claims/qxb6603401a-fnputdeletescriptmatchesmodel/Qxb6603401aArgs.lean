import Derived.Test.Qxb6603401aCheck
import Derived.Deep.LoopGhost
import Derived.Deep.OwnRows
import Derived.BigQuiet
import Derived.Deep.QuietTactic
namespace Go.Proofs.Qxb6603401a
open Go Go.RowKit Go.Deep
set_option linter.unusedSimpArgs false
set_option linter.unusedVariables false

/-- A slice of one-cell elements: n of them, element i is f i. -/
def Lst (w : World) (v : Value) (n : Nat) (f : Nat → Value) : Prop :=
  ∃ a c, v = .slice a n c ∧ (n = 0 ∨ ∃ b off, a = some ⟨b, off, none⟩ ∧ ∀ i, i < n → w.cell? ⟨b, off + i, none⟩ = some (f i))
theorem Lst.chg {w w' : World} {v : Value} {n : Nat} {f : Nat → Value} (h : Lst w v n f) (hb : Chg [] w w') : Lst w' v n f := by
  obtain ⟨a, c, rfl, h | ⟨b, off, rfl, hc⟩⟩ := h
  · exact ⟨a, c, rfl, .inl h⟩
  · exact ⟨_, c, rfl, .inr ⟨b, off, rfl, fun i hi => hb.cell (hc i hi) (by simp)⟩⟩
/-- The same, all its cells from block N on. -/
def LstN (N : Nat) (w : World) (v : Value) (n : Nat) (f : Nat → Value) : Prop :=
  ∃ a c, v = .slice a n c ∧ (n = 0 ∨ ∃ b off, a = some ⟨b, off, none⟩ ∧ N ≤ b ∧ ∀ i, i < n → w.cell? ⟨b, off + i, none⟩ = some (f i))
theorem LstN.toL {B : Nat} {w : World} {v : Value} {n : Nat} {f : Nat → Value} (h : LstN B w v n f) : Lst w v n f := by
  obtain ⟨a, c, rfl, h | ⟨b, off, rfl, _, hc⟩⟩ := h
  · exact ⟨a, c, rfl, .inl h⟩
  · exact ⟨_, c, rfl, .inr ⟨b, off, rfl, hc⟩⟩
/-- The same, all its cells below block B. -/
def LstB (B : Nat) (w : World) (v : Value) (n : Nat) (f : Nat → Value) : Prop := B ≤ w.heap.size ∧
  ∃ a c, v = .slice a n c ∧ (n = 0 ∨ ∃ b off, a = some ⟨b, off, none⟩ ∧ b < B ∧ ∀ i, i < n → w.cell? ⟨b, off + i, none⟩ = some (f i))
theorem Lst.toB {w : World} {v : Value} {n : Nat} {f : Nat → Value} (h : Lst w v n f) : LstB w.heap.size w v n f := by
  obtain ⟨a, c, rfl, rfl | ⟨b, off, rfl, hc⟩⟩ := h
  · exact ⟨Nat.le_refl _, a, c, rfl, .inl rfl⟩
  · by_cases h0 : n = 0
    · exact ⟨Nat.le_refl _, _, c, rfl, .inl h0⟩
    · exact ⟨Nat.le_refl _, _, c, rfl, .inr ⟨b, off, rfl, World.block_lt_of_cell? w _ (hc 0 (by omega)), hc⟩⟩
theorem LstB.toL {B : Nat} {w : World} {v : Value} {n : Nat} {f : Nat → Value} (h : LstB B w v n f) : Lst w v n f := by
  obtain ⟨_, a, c, rfl, h | ⟨b, off, rfl, _, hc⟩⟩ := h
  · exact ⟨a, c, rfl, .inl h⟩
  · exact ⟨_, c, rfl, .inr ⟨b, off, rfl, hc⟩⟩
theorem cell_below {B : Nat} {w w' : World} (hb : Below B w w') (hB : B ≤ w.heap.size) {b : Nat} (hl : b < B) {i : Nat} {l : Option Nat} : w'.cell? ⟨b, i, l⟩ = w.cell? ⟨b, i, l⟩ :=
  World.cell?_of_block (hb.block b hl)
theorem LstB.below {B : Nat} {w w' : World} {v : Value} {n : Nat} {f : Nat → Value} (h : LstB B w v n f) (hb : Below B w w') : LstB B w' v n f := by
  obtain ⟨hB, a, c, rfl, h | ⟨b, off, rfl, hl, hc⟩⟩ := h
  · exact ⟨Nat.le_trans hB hb.size, a, c, rfl, .inl h⟩
  · exact ⟨Nat.le_trans hB hb.size, _, c, rfl, .inr ⟨b, off, rfl, hl, fun i hi => (World.cell?_of_block (hb.block b hl)).trans (hc i hi)⟩⟩
def filledF (z : Value) (f : Nat → Value) (k : Nat) : Nat → Value := fun i => if i < k then f i else z
theorem filledF_zero (z : Value) (f : Nat → Value) (i : Nat) : filledF z f 0 i = z := by simp [filledF]
theorem filledF_step (z : Value) (f : Nat → Value) (k i : Nat) : (if i = k then f k else filledF z f k i) = filledF z f (k + 1) i := by
  unfold filledF
  by_cases e : i = k
  · subst e; simp
  · rw [if_neg e]
    by_cases hlt : i < k
    · rw [if_pos hlt, if_pos (by omega)]
    · rw [if_neg hlt, if_neg (by omega)]
theorem lst_of_rowIs {w : World} {b n : Nat} {t : TypeId} {z : Value} {f : Nat → Value} (h : w.rowIs b t n (filledF z f n)) : LstN b w (.slice (some ⟨b, 0, none⟩) n n) n f := by
  refine ⟨_, _, rfl, .inr ⟨b, 0, rfl, Nat.le_refl _, fun i hi => ?_⟩⟩
  have := h.cell hi
  simp only [filledF, hi, if_true] at this
  simpa using this

theorem Try.inf9 : (Try.prog.info? 9).map (fun i => (i.zero, i.size, i.bytes)) = some (some (.string ⟨#[]⟩), 1, 16) := by kernel_rfl
set_option maxHeartbeats 400000 in
theorem clone_strings_some (b off c n : Nat) (g : Nat → ByteArray) (w : World) (hs : n ≤ 1048576) (hc : ∀ i, i < n → w.cell? ⟨b, off + i, none⟩ = some (.string (g i))) :
    Calls Try.prog 11 #[.slice (some ⟨b, off, none⟩) n c] w fun e w' => ∃ v, e = .returned v ∧ LstN w.heap.size w' v n (fun i => .string (g i)) ∧ Chg [] w w' := by
  have hmk := run_make_row' (P := Try.prog) 22 9 (.string ⟨#[]⟩) 16 Try.underlying22 Try.inf9 rfl .i64 .i64 n (by omega) (by omega)
  have hnil := fun (w : World) (a : Option Addr) (n c n' c' : Nat) => Lib.run_eql_slice_nil (P := Try.prog) w 22 9 a n c n' c' Try.underlying22
  have HC : Hid (∀ i, i < n → w.cell? ⟨b, off + i, none⟩ = some (.string (g i))) := hc
  clear hc
  go_enter Try.func11, Try.ntmps11
  go_wp2
  go_loopg [4] n (fun gg i wr => ∃ k : Nat, k ≤ n ∧ gg = n - k ∧ i = .int .i64 k ∧ wr.rowIs w.heap.size 9 n (filledF (.string ⟨#[]⟩) (fun i => .string (g i)) k) ∧ Chg [] w wr)
  case atStart => exact ⟨0, by omega, by omega, rfl, (World.rowIs_made w _ n 9).congr (fun i _ => (filledF_zero _ (fun i => .string (g i)) i).symm), (Chg.refl _ _).alloc _⟩
  case round =>
    obtain ⟨k, hk, hg, rfl, hrow, hbel⟩ := hrel
    have HG : Hid (gk = n - k) := hg
    clear hg
    by_cases hlt : k < n
    · have h1 : wr.cell? ⟨b, off + k, none⟩ = some (.string (g k)) := hbel.cell (HC.out k hlt) (by simp)
      have h2 := hrow.cell hlt
      have h3 := hrow.frozen k
      have hstep := (hrow.set k (.string (g k))).congr (fun i _ => filledF_step (.string ⟨#[]⟩) (fun i => .string (g i)) k i)
      have HS : Hid _ := hstep
      clear hstep
      go_wp2
      go_roundg (n - (k + 1))
      case measure => have := HG.out; omega
      case rel => exact ⟨k + 1, by omega, rfl, by go_num, HS, hbel.setCell (.inr (Nat.le_refl _)) _⟩
    · obtain rfl : k = n := by omega
      go_wp2
      go_ret
      exact ⟨_, rfl, lst_of_rowIs hrow, hbel⟩
set_option maxHeartbeats 400000 in
theorem clone_strings_zero (ad : Addr) (c : Nat) (g : Nat → ByteArray) (w : World) :
    Calls Try.prog 11 #[.slice (some ad) 0 c] w fun e w' => ∃ v, e = .returned v ∧ LstN w.heap.size w' v 0 (fun i => .string (g i)) ∧ Chg [] w w' := by
  have hmk : ∀ w, (Instr.makeSlice 22 (.int .i64 0) (.int .i64 0)).run Try.prog w = .ok (.slice (some ⟨w.heap.size, 0, none⟩) 0 0) (w.alloc (.cells (madeCells #[.string ⟨#[]⟩] 0) 9)) :=
    run_make_row' (P := Try.prog) 22 9 (.string ⟨#[]⟩) 16 Try.underlying22 Try.inf9 rfl .i64 .i64 0 (by omega) (by omega)
  have hnil := fun (w : World) (a : Option Addr) (n c n' c' : Nat) => Lib.run_eql_slice_nil (P := Try.prog) w 22 9 a n c n' c' Try.underlying22
  go_enter Try.func11, Try.ntmps11
  go_wp2
  refine wp_loop_rounds 1 ?_
  rw [rounds_succ]
  go_wp2
  go_ret
  exact ⟨_, rfl, ⟨_, _, rfl, .inl rfl⟩, (Chg.refl _ _).alloc _⟩
set_option maxHeartbeats 400000 in
theorem clone_strings_nil (c : Nat) (g : Nat → ByteArray) (w : World) :
    Calls Try.prog 11 #[.slice none 0 c] w fun e w' => ∃ v, e = .returned v ∧ LstN w.heap.size w' v 0 (fun i => .string (g i)) ∧ Chg [] w w' := by
  have hnil := fun (w : World) (a : Option Addr) (n c n' c' : Nat) => Lib.run_eql_slice_nil (P := Try.prog) w 22 9 a n c n' c' Try.underlying22
  go_enter Try.func11, Try.ntmps11
  go_wp2
  go_ret
  exact ⟨_, rfl, ⟨_, _, rfl, .inl rfl⟩, Chg.refl _ _⟩
theorem clone_strings {v : Value} {n : Nat} {g : Nat → ByteArray} {w : World} (h : Lst w v n (fun i => .string (g i))) (hs : n ≤ 1048576) :
    Calls Try.prog 11 #[v] w fun e w' => ∃ v, e = .returned v ∧ LstN w.heap.size w' v n (fun i => .string (g i)) ∧ Chg [] w w' := by
  obtain ⟨a, c, rfl, rfl | ⟨b, off, rfl, hc⟩⟩ := h
  · cases a with
    | none => exact clone_strings_nil c g w
    | some ad => exact clone_strings_zero ad c g w
  · exact clone_strings_some b off c _ g w hs hc

theorem Try.inf4 : (Try.prog.info? 4).map (fun i => (i.zero, i.size, i.bytes)) = some (some (.bool false), 1, 1) := by kernel_rfl
set_option maxHeartbeats 400000 in
theorem clone_bools_some (b off c n : Nat) (g : Nat → Bool) (w : World) (hs : n ≤ 1048576) (hc : ∀ i, i < n → w.cell? ⟨b, off + i, none⟩ = some (.bool (g i))) :
    Calls Try.prog 13 #[.slice (some ⟨b, off, none⟩) n c] w fun e w' => ∃ v, e = .returned v ∧ LstN w.heap.size w' v n (fun i => .bool (g i)) ∧ Chg [] w w' := by
  have hmk := run_make_row' (P := Try.prog) 24 4 (.bool false) 1 Try.underlying24 Try.inf4 rfl .i64 .i64 n (by omega) (by omega)
  have hnil := fun (w : World) (a : Option Addr) (n c n' c' : Nat) => Lib.run_eql_slice_nil (P := Try.prog) w 24 4 a n c n' c' Try.underlying24
  have HC : Hid (∀ i, i < n → w.cell? ⟨b, off + i, none⟩ = some (.bool (g i))) := hc
  clear hc
  go_enter Try.func13, Try.ntmps13
  go_wp2
  go_loopg [4] n (fun gg i wr => ∃ k : Nat, k ≤ n ∧ gg = n - k ∧ i = .int .i64 k ∧ wr.rowIs w.heap.size 4 n (filledF (.bool false) (fun i => .bool (g i)) k) ∧ Chg [] w wr)
  case atStart => exact ⟨0, by omega, by omega, rfl, (World.rowIs_made w _ n 4).congr (fun i _ => (filledF_zero _ (fun i => .bool (g i)) i).symm), (Chg.refl _ _).alloc _⟩
  case round =>
    obtain ⟨k, hk, hg, rfl, hrow, hbel⟩ := hrel
    have HG : Hid (gk = n - k) := hg
    clear hg
    by_cases hlt : k < n
    · have h1 : wr.cell? ⟨b, off + k, none⟩ = some (.bool (g k)) := hbel.cell (HC.out k hlt) (by simp)
      have h2 := hrow.cell hlt
      have h3 := hrow.frozen k
      have hstep := (hrow.set k (.bool (g k))).congr (fun i _ => filledF_step (.bool false) (fun i => .bool (g i)) k i)
      have HS : Hid _ := hstep
      clear hstep
      go_wp2
      go_roundg (n - (k + 1))
      case measure => have := HG.out; omega
      case rel => exact ⟨k + 1, by omega, rfl, by go_num, HS, hbel.setCell (.inr (Nat.le_refl _)) _⟩
    · obtain rfl : k = n := by omega
      go_wp2
      go_ret
      exact ⟨_, rfl, lst_of_rowIs hrow, hbel⟩
set_option maxHeartbeats 400000 in
theorem clone_bools_zero (ad : Addr) (c : Nat) (g : Nat → Bool) (w : World) :
    Calls Try.prog 13 #[.slice (some ad) 0 c] w fun e w' => ∃ v, e = .returned v ∧ LstN w.heap.size w' v 0 (fun i => .bool (g i)) ∧ Chg [] w w' := by
  have hmk : ∀ w, (Instr.makeSlice 24 (.int .i64 0) (.int .i64 0)).run Try.prog w = .ok (.slice (some ⟨w.heap.size, 0, none⟩) 0 0) (w.alloc (.cells (madeCells #[.bool false] 0) 4)) :=
    run_make_row' (P := Try.prog) 24 4 (.bool false) 1 Try.underlying24 Try.inf4 rfl .i64 .i64 0 (by omega) (by omega)
  have hnil := fun (w : World) (a : Option Addr) (n c n' c' : Nat) => Lib.run_eql_slice_nil (P := Try.prog) w 24 4 a n c n' c' Try.underlying24
  go_enter Try.func13, Try.ntmps13
  go_wp2
  refine wp_loop_rounds 1 ?_
  rw [rounds_succ]
  go_wp2
  go_ret
  exact ⟨_, rfl, ⟨_, _, rfl, .inl rfl⟩, (Chg.refl _ _).alloc _⟩
set_option maxHeartbeats 400000 in
theorem clone_bools_nil (c : Nat) (g : Nat → Bool) (w : World) :
    Calls Try.prog 13 #[.slice none 0 c] w fun e w' => ∃ v, e = .returned v ∧ LstN w.heap.size w' v 0 (fun i => .bool (g i)) ∧ Chg [] w w' := by
  have hnil := fun (w : World) (a : Option Addr) (n c n' c' : Nat) => Lib.run_eql_slice_nil (P := Try.prog) w 24 4 a n c n' c' Try.underlying24
  go_enter Try.func13, Try.ntmps13
  go_wp2
  go_ret
  exact ⟨_, rfl, ⟨_, _, rfl, .inl rfl⟩, Chg.refl _ _⟩
theorem clone_bools {v : Value} {n : Nat} {g : Nat → Bool} {w : World} (h : Lst w v n (fun i => .bool (g i))) (hs : n ≤ 1048576) :
    Calls Try.prog 13 #[v] w fun e w' => ∃ v, e = .returned v ∧ LstN w.heap.size w' v n (fun i => .bool (g i)) ∧ Chg [] w w' := by
  obtain ⟨a, c, rfl, rfl | ⟨b, off, rfl, hc⟩⟩ := h
  · cases a with
    | none => exact clone_bools_nil c g w
    | some ad => exact clone_bools_zero ad c g w
  · exact clone_bools_some b off c _ g w hs hc

theorem Try.inf5 : (Try.prog.info? 5).map (fun i => (i.zero, i.size, i.bytes)) = some (some (.int .u8 0), 1, 1) := by kernel_rfl
set_option maxHeartbeats 400000 in
theorem clone_bytes_some (b off c n : Nat) (g : Nat → Int) (w : World) (hs : n ≤ 1048576) (hc : ∀ i, i < n → w.cell? ⟨b, off + i, none⟩ = some (.int .u8 (g i))) :
    Calls Try.prog 34 #[.slice (some ⟨b, off, none⟩) n c] w fun e w' => ∃ v, e = .returned v ∧ LstN w.heap.size w' v n (fun i => .int .u8 (g i)) ∧ Chg [] w w' := by
  have hmk := run_make_row' (P := Try.prog) 48 5 (.int .u8 0) 1 Try.underlying48 Try.inf5 rfl .i64 .i64 n (by omega) (by omega)
  have hnil := fun (w : World) (a : Option Addr) (n c n' c' : Nat) => Lib.run_eql_slice_nil (P := Try.prog) w 48 5 a n c n' c' Try.underlying48
  have HC : Hid (∀ i, i < n → w.cell? ⟨b, off + i, none⟩ = some (.int .u8 (g i))) := hc
  clear hc
  go_enter Try.func34, Try.ntmps34
  go_wp2
  go_loopg [4] n (fun gg i wr => ∃ k : Nat, k ≤ n ∧ gg = n - k ∧ i = .int .i64 k ∧ wr.rowIs w.heap.size 5 n (filledF (.int .u8 0) (fun i => .int .u8 (g i)) k) ∧ Chg [] w wr)
  case atStart => exact ⟨0, by omega, by omega, rfl, (World.rowIs_made w _ n 5).congr (fun i _ => (filledF_zero _ (fun i => .int .u8 (g i)) i).symm), (Chg.refl _ _).alloc _⟩
  case round =>
    obtain ⟨k, hk, hg, rfl, hrow, hbel⟩ := hrel
    have HG : Hid (gk = n - k) := hg
    clear hg
    by_cases hlt : k < n
    · have h1 : wr.cell? ⟨b, off + k, none⟩ = some (.int .u8 (g k)) := hbel.cell (HC.out k hlt) (by simp)
      have h2 := hrow.cell hlt
      have h3 := hrow.frozen k
      have hstep := (hrow.set k (.int .u8 (g k))).congr (fun i _ => filledF_step (.int .u8 0) (fun i => .int .u8 (g i)) k i)
      have HS : Hid _ := hstep
      clear hstep
      go_wp2
      go_roundg (n - (k + 1))
      case measure => have := HG.out; omega
      case rel => exact ⟨k + 1, by omega, rfl, by go_num, HS, hbel.setCell (.inr (Nat.le_refl _)) _⟩
    · obtain rfl : k = n := by omega
      go_wp2
      go_ret
      exact ⟨_, rfl, lst_of_rowIs hrow, hbel⟩
set_option maxHeartbeats 400000 in
theorem clone_bytes_zero (ad : Addr) (c : Nat) (g : Nat → Int) (w : World) :
    Calls Try.prog 34 #[.slice (some ad) 0 c] w fun e w' => ∃ v, e = .returned v ∧ LstN w.heap.size w' v 0 (fun i => .int .u8 (g i)) ∧ Chg [] w w' := by
  have hmk : ∀ w, (Instr.makeSlice 48 (.int .i64 0) (.int .i64 0)).run Try.prog w = .ok (.slice (some ⟨w.heap.size, 0, none⟩) 0 0) (w.alloc (.cells (madeCells #[.int .u8 0] 0) 5)) :=
    run_make_row' (P := Try.prog) 48 5 (.int .u8 0) 1 Try.underlying48 Try.inf5 rfl .i64 .i64 0 (by omega) (by omega)
  have hnil := fun (w : World) (a : Option Addr) (n c n' c' : Nat) => Lib.run_eql_slice_nil (P := Try.prog) w 48 5 a n c n' c' Try.underlying48
  go_enter Try.func34, Try.ntmps34
  go_wp2
  refine wp_loop_rounds 1 ?_
  rw [rounds_succ]
  go_wp2
  go_ret
  exact ⟨_, rfl, ⟨_, _, rfl, .inl rfl⟩, (Chg.refl _ _).alloc _⟩
set_option maxHeartbeats 400000 in
theorem clone_bytes_nil (c : Nat) (g : Nat → Int) (w : World) :
    Calls Try.prog 34 #[.slice none 0 c] w fun e w' => ∃ v, e = .returned v ∧ LstN w.heap.size w' v 0 (fun i => .int .u8 (g i)) ∧ Chg [] w w' := by
  have hnil := fun (w : World) (a : Option Addr) (n c n' c' : Nat) => Lib.run_eql_slice_nil (P := Try.prog) w 48 5 a n c n' c' Try.underlying48
  go_enter Try.func34, Try.ntmps34
  go_wp2
  go_ret
  exact ⟨_, rfl, ⟨_, _, rfl, .inl rfl⟩, Chg.refl _ _⟩
theorem clone_bytes {v : Value} {n : Nat} {g : Nat → Int} {w : World} (h : Lst w v n (fun i => .int .u8 (g i))) (hs : n ≤ 1048576) :
    Calls Try.prog 34 #[v] w fun e w' => ∃ v, e = .returned v ∧ LstN w.heap.size w' v n (fun i => .int .u8 (g i)) ∧ Chg [] w w' := by
  obtain ⟨a, c, rfl, rfl | ⟨b, off, rfl, hc⟩⟩ := h
  · cases a with
    | none => exact clone_bytes_nil c g w
    | some ad => exact clone_bytes_zero ad c g w
  · exact clone_bytes_some b off c _ g w hs hc
end Go.Proofs.Qxb6603401a
