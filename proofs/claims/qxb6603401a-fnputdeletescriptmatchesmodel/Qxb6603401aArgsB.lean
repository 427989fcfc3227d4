import Derived.Test.Qxb6603401aArgs
namespace Go.Proofs.Qxb6603401a
open Go Go.RowKit Go.Deep
set_option linter.unusedSimpArgs false
set_option linter.unusedVariables false

/-- The slice's bytes can be read. -/
def Byt (w : World) (a : Option Addr) (n c : Nat) : Prop := ∃ z : Nat → Int, Lst w (.slice a n c) n (fun i => .int .u8 (z i))
theorem Byt.chg {w w' : World} {a : Option Addr} {n c : Nat} (h : Byt w a n c) (hb : Chg [] w w') : Byt w' a n c := by
  obtain ⟨z, h⟩ := h
  exact ⟨z, h.chg hb⟩

def BytN (N : Nat) (w : World) (a : Option Addr) (n c : Nat) : Prop := ∃ z : Nat → Int, LstN N w (.slice a n c) n (fun i => .int .u8 (z i))
theorem BytN.toB {N : Nat} {w : World} {a : Option Addr} {n c : Nat} (h : BytN N w a n c) : Byt w a n c := by
  obtain ⟨z, h⟩ := h
  exact ⟨z, h.toL⟩
/-- Writes to one elder block p leave it. -/
theorem BytN.chg {N p : Nat} {w w' : World} {a : Option Addr} {n c : Nat} (h : BytN N w a n c) (hb : Chg [p] w w') (hp : p < N) : BytN N w' a n c := by
  obtain ⟨z, a, c, e, h⟩ := h
  refine ⟨z, a, c, e, ?_⟩
  rcases h with h | ⟨b, off, rfl, hN, hc⟩
  · exact .inl h
  · exact .inr ⟨b, off, rfl, hN, fun i hi => hb.cell (hc i hi) (by simp; omega)⟩
theorem BytN.less {N N' : Nat} {w : World} {a : Option Addr} {n c : Nat} (h : BytN N w a n c) (hp : N' ≤ N) : BytN N' w a n c := by
  obtain ⟨z, a, c, e, h⟩ := h
  refine ⟨z, a, c, e, ?_⟩
  rcases h with h | ⟨b, off, rfl, hN, hc⟩
  · exact .inl h
  · exact .inr ⟨b, off, rfl, Nat.le_trans hp hN, hc⟩

theorem Try.inf48 : (Try.prog.info? 48).map (fun i => (i.zero, i.size, i.bytes)) = some (some (.slice none 0 0), 1, 24) := by kernel_rfl

set_option maxHeartbeats 800000 in
theorem clone_vals_some (b off c n : Nat) (A : Nat → Option Addr) (L C : Nat → Nat) (w : World) (hs : n ≤ 1048576) (hc : ∀ i, i < n → w.cell? ⟨b, off + i, none⟩ = some (.slice (A i) (L i) (C i)))
    (hv : ∀ i, i < n → L i ≤ 1048576 ∧ Byt w (A i) (L i) (C i)) :
    Calls Try.prog 12 #[.slice (some ⟨b, off, none⟩) n c] w fun e w' => ∃ (v : Value) (A' : Nat → Option Addr) (C' : Nat → Nat), e = .returned v ∧ LstN w.heap.size w' v n (fun i => .slice (A' i) (L i) (C' i)) ∧ (∀ i, i < n → Byt w' (A' i) (L i) (C' i)) ∧ Chg [] w w' := by
  have hmk := run_make_row' (P := Try.prog) 23 48 (.slice none 0 0) 24 Try.underlying23 Try.inf48 rfl .i64 .i64 n (by omega) (by omega)
  have hnil := fun (w : World) (a : Option Addr) (n c n' c' : Nat) => Lib.run_eql_slice_nil (P := Try.prog) w 23 48 a n c n' c' Try.underlying23
  have HC : Hid (∀ i, i < n → w.cell? ⟨b, off + i, none⟩ = some (.slice (A i) (L i) (C i))) := hc
  have HV : Hid (∀ i, i < n → L i ≤ 1048576 ∧ Byt w (A i) (L i) (C i)) := hv
  clear hc hv
  go_enter Try.func12, Try.ntmps12
  go_wp2
  go_loopg [4] n (fun gg i wr => ∃ (k : Nat) (A' : Nat → Option Addr) (C' : Nat → Nat), k ≤ n ∧ gg = n - k ∧ i = .int .i64 k ∧ wr.rowIs w.heap.size 48 n (filledF (.slice none 0 0) (fun i => .slice (A' i) (L i) (C' i)) k) ∧ (∀ i, i < k → BytN (w.heap.size + 1) wr (A' i) (L i) (C' i)) ∧ Chg [] w wr)
  case atStart => exact ⟨0, fun _ => none, fun _ => 0, by omega, by omega, rfl, (World.rowIs_made w _ n 48).congr (fun i _ => (filledF_zero _ _ i).symm), fun i hi => by omega, (Chg.refl _ _).alloc _⟩
  case round =>
    obtain ⟨k, A', C', hk, hg, rfl, hrow, hby, hbel⟩ := hrel
    have HG : Hid (gk = n - k) := hg
    clear hg
    by_cases hlt : k < n
    · have h1 : wr.cell? ⟨b, off + k, none⟩ = some (.slice (A k) (L k) (C k)) := hbel.cell (HC.out k hlt) (by simp)
      obtain ⟨hl, z, hz⟩ := HV.out k hlt
      have hcl := clone_bytes (hz.chg hbel) hl
      have HR : Hid (wr.rowIs w.heap.size 48 n (filledF (.slice none 0 0) (fun i => .slice (A' i) (L i) (C' i)) k) ∧ (∀ i, i < k → BytN (w.heap.size + 1) wr (A' i) (L i) (C' i)) ∧ Chg [] w wr) := ⟨hrow, hby, hbel⟩
      clear hrow hby hz hbel hl
      go_wp2_with fail
      refine hcl.mono ?_
      rintro e w1 ⟨v, rfl, hL, hch⟩
      obtain ⟨a', c', rfl, hh⟩ := hL
      have hrow := HR.out.1.of_block (hch.block _ HR.out.1.lt (by simp))
      have h2 := hrow.cell hlt
      have h3 := hrow.frozen k
      have hstep := (hrow.set k (.slice a' (L k) c')).congr (g := filledF (.slice none 0 0) (fun i => .slice (if i = k then a' else A' i) (L i) (if i = k then c' else C' i)) (k + 1)) (fun i _ => by
        unfold filledF
        by_cases e : i = k
        · subst e; simp
        · rw [if_neg e]
          by_cases hlt : i < k
          · rw [if_pos hlt, if_pos (by omega)]; simp [e]
          · rw [if_neg hlt, if_neg (by omega)])
      have HS : Hid _ := hstep
      have HB : Hid (BytN wr.heap.size w1 a' (L k) c') := ⟨z, a', c', rfl, hh⟩
      have HCH : Hid (Chg [] wr w1) := hch
      clear hstep hrow hh hch hcl
      go_wp2_with fail
      go_roundg (n - (k + 1))
      case measure => have := HG.out; omega
      case rel =>
        refine ⟨k + 1, _, _, by omega, rfl, by go_num, HS.out, fun i hi => ?_, (HR.out.2.2.trans HCH.out).setCell (.inr (Nat.le_refl _)) _⟩
        have hc1 : ∀ v, Chg [w.heap.size] w1 (w1.setCell ⟨w.heap.size, k, none⟩ v) := fun v => (Chg.refl _ _).setCell (.inl (by simp)) v
        by_cases e : i = k
        · subst e
          rw [if_pos rfl, if_pos rfl]
          exact (HB.out.less (Nat.succ_le_of_lt HR.out.1.lt)).chg (hc1 _) (Nat.lt_succ_self _)
        · rw [if_neg e, if_neg e]
          exact (((HR.out.2.1 i (by omega)).chg (HCH.out.mono (by simp)) (Nat.lt_succ_self _))).chg (hc1 _) (Nat.lt_succ_self _)
    · obtain rfl : k = n := by omega
      go_wp2
      go_ret
      exact ⟨_, _, _, rfl, lst_of_rowIs hrow, fun i hi => (hby i hi).toB, hbel⟩

set_option maxHeartbeats 400000 in
theorem clone_vals_zero (ad : Addr) (c : Nat) (L : Nat → Nat) (w : World) :
    Calls Try.prog 12 #[.slice (some ad) 0 c] w fun e w' => ∃ (v : Value) (A' : Nat → Option Addr) (C' : Nat → Nat), e = .returned v ∧ LstN w.heap.size w' v 0 (fun i => .slice (A' i) (L i) (C' i)) ∧ (∀ i, i < 0 → Byt w' (A' i) (L i) (C' i)) ∧ Chg [] w w' := by
  have hmk : ∀ w, (Instr.makeSlice 23 (.int .i64 0) (.int .i64 0)).run Try.prog w = .ok (.slice (some ⟨w.heap.size, 0, none⟩) 0 0) (w.alloc (.cells (madeCells #[.slice none 0 0] 0) 48)) :=
    run_make_row' (P := Try.prog) 23 48 (.slice none 0 0) 24 Try.underlying23 Try.inf48 rfl .i64 .i64 0 (by omega) (by omega)
  have hnil := fun (w : World) (a : Option Addr) (n c n' c' : Nat) => Lib.run_eql_slice_nil (P := Try.prog) w 23 48 a n c n' c' Try.underlying23
  go_enter Try.func12, Try.ntmps12
  go_wp2
  refine wp_loop_rounds 1 ?_
  rw [rounds_succ]
  go_wp2
  go_ret
  exact ⟨_, fun _ => none, fun _ => 0, rfl, ⟨_, _, rfl, .inl rfl⟩, fun i hi => by omega, (Chg.refl _ _).alloc _⟩
set_option maxHeartbeats 400000 in
theorem clone_vals_nil (c : Nat) (L : Nat → Nat) (w : World) :
    Calls Try.prog 12 #[.slice none 0 c] w fun e w' => ∃ (v : Value) (A' : Nat → Option Addr) (C' : Nat → Nat), e = .returned v ∧ LstN w.heap.size w' v 0 (fun i => .slice (A' i) (L i) (C' i)) ∧ (∀ i, i < 0 → Byt w' (A' i) (L i) (C' i)) ∧ Chg [] w w' := by
  have hnil := fun (w : World) (a : Option Addr) (n c n' c' : Nat) => Lib.run_eql_slice_nil (P := Try.prog) w 23 48 a n c n' c' Try.underlying23
  go_enter Try.func12, Try.ntmps12
  go_wp2
  go_ret
  exact ⟨_, fun _ => none, fun _ => 0, rfl, ⟨_, _, rfl, .inl rfl⟩, fun i hi => by omega, Chg.refl _ _⟩
theorem clone_vals {v : Value} {n : Nat} {A : Nat → Option Addr} {L C : Nat → Nat} {w : World} (h : Lst w v n (fun i => .slice (A i) (L i) (C i))) (hs : n ≤ 1048576) (hv : ∀ i, i < n → L i ≤ 1048576 ∧ Byt w (A i) (L i) (C i)) :
    Calls Try.prog 12 #[v] w fun e w' => ∃ (v : Value) (A' : Nat → Option Addr) (C' : Nat → Nat), e = .returned v ∧ LstN w.heap.size w' v n (fun i => .slice (A' i) (L i) (C' i)) ∧ (∀ i, i < n → Byt w' (A' i) (L i) (C' i)) ∧ Chg [] w w' := by
  obtain ⟨a, c, rfl, rfl | ⟨b, off, rfl, hc⟩⟩ := h
  · cases a with
    | none => exact clone_vals_nil c L w
    | some ad => exact clone_vals_zero ad c L w
  · exact clone_vals_some b off c _ A L C w hs hc hv

/-! ### opIsDelete, opValue -/
theorem is_delete {v : Value} {n : Nat} {B : Nat → Bool} {w : World} (h : Lst w v n (fun i => .bool (B i))) (i : Nat) :
    Calls Try.prog 23 #[v, .int .i64 i] w fun e w' => e = .returned (.bool (decide (i < n) && B i)) ∧ w = w' := by
  have z1 : (0 : Int) ≤ (i : Int) := Int.natCast_nonneg _
  obtain ⟨a, c, rfl, h⟩ := h
  by_cases hi : i < n
  · rcases h with rfl | ⟨b, off, rfl, hc⟩
    · omega
    have h1 := hc i hi
    have z2 : (i : Int) < (n : Int) := by omega
    clear hc
    rw [decide_eq_true hi, Bool.true_and]
    go_enter Try.func23, Try.ntmps23
    go_wp2
    go_ret
    exact ⟨rfl, rfl⟩
  · clear h
    have z2 : ¬ (i : Int) < (n : Int) := by omega
    rw [decide_eq_false hi, Bool.false_and]
    go_enter Try.func23, Try.ntmps23
    go_wp2
    go_ret
    exact ⟨rfl, rfl⟩
theorem op_value {v : Value} {n : Nat} {A : Nat → Option Addr} {L C : Nat → Nat} {w : World} (h : Lst w v n (fun i => .slice (A i) (L i) (C i))) (i : Nat) :
    Calls Try.prog 26 #[v, .int .i64 i] w fun e w' => e = .returned (if i < n then .slice (A i) (L i) (C i) else .slice none 0 0) ∧ w = w' := by
  have z1 : (0 : Int) ≤ (i : Int) := Int.natCast_nonneg _
  obtain ⟨a, c, rfl, h⟩ := h
  by_cases hi : i < n
  · rcases h with rfl | ⟨b, off, rfl, hc⟩
    · omega
    have h1 := hc i hi
    have z2 : (i : Int) < (n : Int) := by omega
    clear hc
    rw [if_pos hi]
    go_enter Try.func26, Try.ntmps26
    go_wp2
    go_ret
    exact ⟨rfl, rfl⟩
  · clear h
    have z2 : ¬ (i : Int) < (n : Int) := by omega
    rw [if_neg hi]
    go_enter Try.func26, Try.ntmps26
    go_wp2
    go_ret
    exact ⟨rfl, rfl⟩

/-! ### sameBytes of one slice with itself -/
set_option maxHeartbeats 800000 in
theorem same_bytes {a : Option Addr} {n c : Nat} {w : World} (h : Byt w a n c) (hs : n ≤ 1048576) :
    Calls Try.prog 28 #[.slice a n c, .slice a n c] w fun e w' => e = .returned (.bool true) ∧ Chg [] w w' := by
  have hnil := fun (w : World) (a : Option Addr) (n c n' c' : Nat) => Lib.run_eql_slice_nil (P := Try.prog) w 48 5 a n c n' c' Try.underlying48
  obtain ⟨z, a', c', e, h⟩ := h
  simp only [Value.slice.injEq, true_and] at e
  obtain ⟨rfl, rfl⟩ := e
  rcases h with rfl | ⟨b, off, rfl, hc⟩
  · cases a with
    | none =>
      go_enter Try.func28, Try.ntmps28
      go_wp2
      refine wp_loop_rounds 1 ?_
      rw [rounds_succ]
      go_wp2
      go_ret
      exact ⟨rfl, Chg.refl _ _⟩
    | some ad =>
      go_enter Try.func28, Try.ntmps28
      go_wp2
      refine wp_loop_rounds 1 ?_
      rw [rounds_succ]
      go_wp2
      go_ret
      exact ⟨rfl, Chg.refl _ _⟩
  · have HC : Hid (∀ i, i < n → w.cell? ⟨b, off + i, none⟩ = some (.int .u8 (z i))) := hc
    clear hc
    go_enter Try.func28, Try.ntmps28
    go_wp2
    go_loopg [5] n (fun gg i wr => ∃ k : Nat, k ≤ n ∧ gg = n - k ∧ i = .int .i64 k ∧ Chg [] w wr)
    case atStart => exact ⟨0, by omega, by omega, rfl, Chg.refl _ _⟩
    case round =>
      obtain ⟨k, hk, hg, rfl, hbel⟩ := hrel
      have HG : Hid (gk = n - k) := hg
      clear hg
      by_cases hlt : k < n
      · have h1 : wr.cell? ⟨b, off + k, none⟩ = some (.int .u8 (z k)) := hbel.cell (HC.out k hlt) (by simp)
        generalize z k = zk at h1
        go_wp2
        go_quiet (fail)
        go_wp2
        go_roundg (n - (k + 1))
        case measure => have := HG.out; omega
        case rel => exact ⟨k + 1, by omega, rfl, by go_num, hbel.drewN _⟩
      · obtain rfl : k = n := by omega
        go_wp2
        go_ret
        exact ⟨rfl, hbel⟩
end Go.Proofs.Qxb6603401a
