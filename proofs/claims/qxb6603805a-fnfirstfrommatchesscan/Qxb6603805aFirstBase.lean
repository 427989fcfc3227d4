import Derived.Test.Qxb6603805aFirstLaw
import Derived.WalkKit
import Derived.WalkSpells
import Derived.WalkLawsBesides
import Derived.Deep.LoopGhost
import Derived.Deep.OwnRows
import Derived.BigQuiet
import Derived.Deep.QuietTactic
namespace Go.Proofs.Qxb6603805a.fnFirstFromMatchesScan
open Go.RowKit Go.Deep

theorem info2 : (Try.prog.info? 2).map (fun i => (i.zero, i.size, i.bytes)) = some (some (.int .i64 0), 1, 8) := by kernel_rfl

/-- What is known of a slice of int64 in a world: its elements are 'xs'. -/
def Row (w : World) (v : Value) (xs : List Int) : Prop :=
  ∃ a c, v = .slice a xs.length c ∧ (xs = [] ∨ ∃ b off, a = some ⟨b, off, none⟩ ∧ ∀ i, i < xs.length → w.cell? ⟨b, off + i, none⟩ = some (.int .i64 (xs.getD i 0)))

theorem Row.later {w w' : World} {v : Value} {xs : List Int} (h : Row w v xs) (hb : Below w.heap.size w w') : Row w' v xs := by
  obtain ⟨a, c, rfl, h | ⟨b, off, rfl, hc⟩⟩ := h
  · exact ⟨a, c, rfl, .inl h⟩
  · exact ⟨_, c, rfl, .inr ⟨b, off, rfl, fun i hi => cell_later hb (hc i hi)⟩⟩

theorem ret_bool {a b : Bool} (h : a = b) : Ending.returned (.bool a) = .returned (.bool b) := by rw [h]
theorem below_trans {a b c : World} (h : Below a.heap.size a b) (k : Below b.heap.size b c) : Below a.heap.size a c := h.trans (k.mono h.size)

/-- A row of the call's own, k cells filled. -/
def filled (xs : List Int) (k : Nat) : Nat → Value := fun i => if i < k then .int .i64 (xs.getD i 0) else .int .i64 0

theorem filled_zero (xs : List Int) (i : Nat) : filled xs 0 i = .int .i64 0 := by simp [filled]
theorem filled_step (xs : List Int) (k i : Nat) : (if i = k then Value.int .i64 (xs.getD k 0) else filled xs k i) = filled xs (k + 1) i := by
  unfold filled
  by_cases e : i = k
  · subst e; simp
  · rw [if_neg e]
    by_cases hlt : i < k
    · rw [if_pos hlt, if_pos (by omega)]
    · rw [if_neg hlt, if_neg (by omega)]

theorem row_of_rowIs {w : World} {b n : Nat} {xs : List Int} (h : w.rowIs b 2 n (filled xs n)) (hn : n = xs.length) : Row w (.slice (some ⟨b, 0, none⟩) n n) xs := by
  subst hn
  refine ⟨_, _, rfl, .inr ⟨b, 0, rfl, fun i hi => ?_⟩⟩
  have := h.cell hi
  simp only [filled, hi, if_true] at this
  simpa using this

set_option maxHeartbeats 400000 in
theorem clone_some (b off c n : Nat) (xs : List Int) (w : World) (hn : n = xs.length) (hs : n ≤ 1048576)
    (hc : ∀ i, i < n → w.cell? ⟨b, off + i, none⟩ = some (.int .i64 (xs.getD i 0))) :
    Calls Try.prog 15 #[.slice (some ⟨b, off, none⟩) n c] w fun e w' => ∃ v, e = .returned v ∧ Row w' v xs ∧ Below w.heap.size w w' := by
  have hmk := run_make_row' (P := Try.prog) 30 2 (.int .i64 0) 8 Try.underlying30 info2 rfl .i64 .i64 n (by omega) (by omega)
  have hnil := fun (w : World) (a : Option Addr) (n c n' c' : Nat) => Lib.run_eql_slice_nil (P := Try.prog) w 30 2 a n c n' c' Try.underlying30
  have HN : Hid (n = xs.length) := hn
  clear hn
  have HC : Hid (∀ i, i < n → w.cell? ⟨b, off + i, none⟩ = some (.int .i64 (xs.getD i 0))) := hc
  clear hc
  go_enter Try.func15, Try.ntmps15
  go_wp2
  go_loopg [4] n (fun g i wr => ∃ k : Nat, k ≤ n ∧ g = n - k ∧ i = .int .i64 k ∧ wr.rowIs w.heap.size 2 n (filled xs k) ∧ Below w.heap.size w wr)
  case atStart => exact ⟨0, by omega, by omega, rfl, (World.rowIs_made w _ n 2).congr (fun i _ => (filled_zero xs i).symm), (Below.refl _ _).alloc (Nat.le_refl _) _⟩
  case round =>
    obtain ⟨k, hk, hg, rfl, hrow, hbel⟩ := hrel
    have HG : Hid (gk = n - k) := hg
    clear hg
    by_cases hlt : k < n
    · have h1 : wr.cell? ⟨b, off + k, none⟩ = some (.int .i64 (xs.getD k 0)) := cell_later hbel (HC.out k hlt)
      have h2 := hrow.cell hlt
      have h3 := hrow.frozen k
      have hstep := (hrow.set k (.int .i64 (xs.getD k 0))).congr (fun i _ => filled_step xs k i)
      have HS : Hid _ := hstep
      clear hstep
      go_wp2
      go_roundg (n - (k + 1))
      case measure => have := HG.out; omega
      case rel => exact ⟨k + 1, by omega, rfl, by go_num, HS, hbel.setCell (Nat.le_refl _) _⟩
    · obtain rfl : k = n := by omega
      go_wp2
      go_ret
      exact ⟨_, rfl, row_of_rowIs hrow HN, hbel⟩

set_option maxHeartbeats 400000 in
theorem clone_zero (ad : Addr) (c : Nat) (w : World) :
    Calls Try.prog 15 #[.slice (some ad) 0 c] w fun e w' => ∃ v, e = .returned v ∧ Row w' v [] ∧ Below w.heap.size w w' := by
  have hmk : ∀ w, (Instr.makeSlice 30 (.int .i64 0) (.int .i64 0)).run Try.prog w = .ok (.slice (some ⟨w.heap.size, 0, none⟩) 0 0) (w.alloc (.cells (madeCells #[.int .i64 0] 0) 2)) :=
    run_make_row' (P := Try.prog) 30 2 (.int .i64 0) 8 Try.underlying30 info2 rfl .i64 .i64 0 (by omega) (by omega)
  have hnil := fun (w : World) (a : Option Addr) (n c n' c' : Nat) => Lib.run_eql_slice_nil (P := Try.prog) w 30 2 a n c n' c' Try.underlying30
  go_enter Try.func15, Try.ntmps15
  go_wp2
  refine wp_loop_rounds 1 ?_
  rw [rounds_succ]
  go_wp2
  go_ret
  exact ⟨_, rfl, ⟨_, _, rfl, .inl rfl⟩, (Below.refl _ _).alloc (Nat.le_refl _) _⟩

set_option maxHeartbeats 400000 in
theorem clone_nil (c : Nat) (w : World) :
    Calls Try.prog 15 #[.slice none 0 c] w fun e w' => ∃ v, e = .returned v ∧ Row w' v [] ∧ Below w.heap.size w w' := by
  have hnil := fun (w : World) (a : Option Addr) (n c n' c' : Nat) => Lib.run_eql_slice_nil (P := Try.prog) w 30 2 a n c n' c' Try.underlying30
  go_enter Try.func15, Try.ntmps15
  go_wp2
  go_ret
  exact ⟨_, rfl, ⟨_, _, rfl, .inl rfl⟩, Below.refl _ _⟩

theorem clone_any {v : Value} {xs : List Int} {w : World} (h : Row w v xs) (hs : xs.length ≤ 1048576) :
    Calls Try.prog 15 #[v] w fun e w' => ∃ v, e = .returned v ∧ Row w' v xs ∧ Below w.heap.size w w' := by
  obtain ⟨a, c, rfl, rfl | ⟨b, off, rfl, hc⟩⟩ := h
  · cases a with
    | none => exact clone_nil c w
    | some ad => exact clone_zero ad c w
  · exact clone_some b off c _ xs w rfl hs hc

end Go.Proofs.Qxb6603805a.fnFirstFromMatchesScan
