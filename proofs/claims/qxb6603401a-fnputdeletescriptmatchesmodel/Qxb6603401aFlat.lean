import Derived.Test.Qxb6603401aNode
namespace Go.Proofs.Qxb6603401a
open Go Go.RowKit

theorem full82 : (Try.prog.info? 82).map (fun i => (i.zero, i.size, i.bytes)) = some (some (.agg #[.string ⟨#[]⟩, .slice none 0 0]), 2, 40) := by kernel_rfl
theorem full30 : (Try.prog.info? 30).map (fun i => (i.zero, i.size, i.bytes)) = some (some (.pointer none), 1, 8) := by kernel_rfl

/-- The zero cells of a new row of items. -/
def zeros82 : Array Value := madeCells #[.string ⟨#[]⟩, .slice none 0 0] 62
def zeros30 : Array Value := madeCells #[.pointer none] 32
theorem zeros82_size : zeros82.toList.length = 62 := by simp [zeros82, size_madeCells]
theorem zeros30_size : zeros30.toList.length = 32 := by simp [zeros30, size_madeCells]

theorem make76 (w : World) : (Instr.makeSlice 76 (.int .i64 0) (.int .i64 31)).run Try.prog w = .ok (.slice (some ⟨w.heap.size, 0, none⟩) 0 31) (w.alloc (.cells zeros82 82)) := by
  obtain ⟨i, hi, hzz⟩ := Option.map_eq_some_iff.1 full82
  simp only [Prod.mk.injEq] at hzz
  obtain ⟨hz, hs', hb⟩ := hzz
  have := run_make (P := Try.prog) w 76 82 i _ Try.underlying76 hi hz .i64 .i64 0 31 (by omega) (by omega) (by rw [hb]; omega) (by omega)
  rw [hs'] at this
  exact this
theorem make77 (w : World) : (Instr.makeSlice 77 (.int .i64 0) (.int .i64 32)).run Try.prog w = .ok (.slice (some ⟨w.heap.size, 0, none⟩) 0 32) (w.alloc (.cells zeros30 30)) := by
  obtain ⟨i, hi, hzz⟩ := Option.map_eq_some_iff.1 full30
  simp only [Prod.mk.injEq] at hzz
  obtain ⟨hz, hs', hb⟩ := hzz
  have := run_make (P := Try.prog) w 77 30 i _ Try.underlying77 hi hz .i64 .i64 0 32 (by omega) (by omega) (by rw [hb]; omega) (by omega)
  rw [hs'] at this
  exact this

theorem row_of_block {w : World} {b T tot : Nat} {c : Array Value} (h : w.heap[b]? = some (.cells c T (0, 0))) (hl : c.toList.length = tot) : RowOf T tot w b [] := ⟨c.toList, by simpa using h, by simpa using hl⟩

/-- 'the tree's generation is 0': what 'newNode' and 'mutable' read of it. -/
def Gen (tb : Nat) (w : World) : Prop := w.cell? ⟨tb, 1, none⟩ = some (.int .u64 0)
theorem Gen.later {tb B : Nat} {w w' : World} (h : Gen tb w) (hb : Below B w w') (ht : tb < B) : Gen tb w' := (hb.cell (p := ⟨tb, 1, none⟩) ht).trans h

def newNd (leaf : Bool) : Nd := ⟨[], if leaf then none else some []⟩

theorem made_leaf (w : World) : NodeAt (((w.alloc (.cells zeros82 82)).alloc (.cells #[.int .u64 0, .slice (some ⟨w.heap.size, 0, none⟩) 0 31, .slice none 0 0] 79)).drew) w.heap.size (newNd true) := by
  have e : (w.alloc (.cells zeros82 82)).heap.size = w.heap.size + 1 := by simp
  refine ⟨?_, row_of_block (c := zeros82) ?_ zeros82_size, fun ks hk => by cases hk⟩
  · have := heap_alloc_new (w.alloc (.cells zeros82 82)) (.cells #[.int .u64 0, .slice (some ⟨w.heap.size, 0, none⟩) 0 31, .slice none 0 0] 79)
    rw [e] at this
    exact this
  · show (World.alloc _ _).heap[_]? = _
    rw [Below.heap_alloc _ _ _ (by simp)]
    exact heap_alloc_new w _

theorem made_inner (w : World) : NodeAt (((w.alloc (.cells zeros82 82)).alloc (.cells #[.int .u64 0, .slice (some ⟨w.heap.size, 0, none⟩) 0 31, .slice (some ⟨w.heap.size + 1 + 1, 0, none⟩) 0 32] 79)).alloc (.cells zeros30 30)).drew w.heap.size (newNd false) := by
  have e : (w.alloc (.cells zeros82 82)).heap.size = w.heap.size + 1 := by simp
  have e2 : ∀ o, ((w.alloc (.cells zeros82 82)).alloc o).heap.size = w.heap.size + 2 := by simp
  refine ⟨?_, row_of_block (c := zeros82) ?_ zeros82_size, fun ks hk => ?_⟩
  · show (World.alloc _ _).heap[_]? = _
    rw [Below.heap_alloc _ _ _ (by simp)]
    have := heap_alloc_new (w.alloc (.cells zeros82 82)) (.cells #[.int .u64 0, .slice (some ⟨w.heap.size, 0, none⟩) 0 31, .slice (some ⟨w.heap.size + 1 + 1, 0, none⟩) 0 32] 79)
    rw [e] at this
    exact this
  · show (World.alloc _ _).heap[_]? = _
    rw [Below.heap_alloc _ _ _ (by simp; omega), Below.heap_alloc _ _ _ (by simp)]
    exact heap_alloc_new w _
  · cases hk
    refine row_of_block (c := zeros30) ?_ zeros30_size
    have := heap_alloc_new ((w.alloc (.cells zeros82 82)).alloc (.cells #[.int .u64 0, .slice (some ⟨w.heap.size, 0, none⟩) 0 31, .slice (some ⟨w.heap.size + 1 + 1, 0, none⟩) 0 32] 79)) (.cells zeros30 30)
    rw [e2] at this
    exact this

set_option maxHeartbeats 400000 in
theorem newNode_leaf (tb : Nat) (w : World) (hg : Gen tb w) :
    Calls Try.prog 56 #[.pointer (some ⟨tb, 0, none⟩), .bool true] w fun e w' => e = .returned (ptr w.heap.size) ∧ NodeAt w' w.heap.size (newNd true) ∧ Chg [] w w' := by
  have hlt : tb < w.heap.size := World.block_lt_of_cell? w _ hg
  have h1 : w.cell? ⟨tb, 1, none⟩ = some (.int .u64 0) := hg
  have h2 : ∀ o, (w.alloc o).cell? ⟨tb, 1, none⟩ = some (.int .u64 0) := fun o => (World.cell?_alloc_lt w _ _ hlt).trans hg
  have hmk := make76
  clear hg
  go_enter Try.func56, Try.ntmps56
  go_wp2
  go_region
  go_wp2
  go_ret
  exact ⟨rfl, made_leaf w, (((Chg.refl _ w).alloc _).alloc _).drew⟩

set_option maxHeartbeats 400000 in
theorem newNode_inner (tb : Nat) (w : World) (hg : Gen tb w) :
    Calls Try.prog 56 #[.pointer (some ⟨tb, 0, none⟩), .bool false] w fun e w' => e = .returned (ptr w.heap.size) ∧ NodeAt w' w.heap.size (newNd false) ∧ Chg [] w w' := by
  have hlt : tb < w.heap.size := World.block_lt_of_cell? w _ hg
  have h1 : w.cell? ⟨tb, 1, none⟩ = some (.int .u64 0) := hg
  have h2 : ∀ o, (w.alloc o).cell? ⟨tb, 1, none⟩ = some (.int .u64 0) := fun o => (World.cell?_alloc_lt w _ _ hlt).trans hg
  have hmk := make76
  have hmk2 := make77
  clear hg
  go_enter Try.func56, Try.ntmps56
  go_wp2
  go_region
  go_wp2
  go_ret
  exact ⟨rfl, made_inner w, ((((Chg.refl _ w).alloc _).alloc _).alloc _).drew⟩

theorem newNode_any (tb : Nat) (leaf : Bool) (w : World) (hg : Gen tb w) :
    Calls Try.prog 56 #[.pointer (some ⟨tb, 0, none⟩), .bool leaf] w fun e w' => e = .returned (ptr w.heap.size) ∧ NodeAt w' w.heap.size (newNd leaf) ∧ Chg [] w w' := by
  cases leaf
  · exact newNode_inner tb w hg
  · exact newNode_leaf tb w hg

set_option maxHeartbeats 400000 in
theorem mutable_any (tb n : Nat) (nd : Nd) (w : World) (hg : Gen tb w) (hn : NodeAt w n nd) :
    Calls Try.prog 48 #[.pointer (some ⟨tb, 0, none⟩), ptr n] w fun e w' => e = .returned (ptr n) ∧ ∃ q, w.drewN q = w' := by
  have h1 : w.cell? ⟨tb, 1, none⟩ = some (.int .u64 0) := hg
  have h2 := hn.gen
  unfold ptr
  clear hg hn
  go_enter Try.func48, Try.ntmps48
  go_wp2
  go_quiet (fail)
  go_wp2
  go_ret
  exact ⟨rfl, _, rfl⟩

/-- A store of what is there. -/
theorem setCell_self (w : World) (b j : Nat) (v : Value) (h : w.cell? ⟨b, j, none⟩ = some v) : w.setCell ⟨b, j, none⟩ v = w := by
  obtain ⟨c, T, fr, hb, hc⟩ : ∃ c T fr, w.heap[b]? = some (.cells c T fr) ∧ c[j]? = some v := by
    cases hb : w.heap[b]? with
    | none => simp [World.cell?, hb] at h
    | some o =>
      cases o with
      | cells c T fr => exact ⟨c, T, fr, rfl, by simpa [World.cell?, hb] using h⟩
      | _ => simp [World.cell?, hb] at h
  obtain ⟨hj, hv⟩ := Array.getElem?_eq_some_iff.1 hc
  rw [setCell_eq_setRow w b j c T fr v hb]
  have : c.setIfInBounds j v = c := by
    rw [← hv]; simp [Array.setIfInBounds, hj]
  rw [this]
  exact setRow_self w b c T fr hb

theorem drewN_chg (w : World) (q : Nat) : Chg [] w (w.drewN q) := (Chg.refl _ _).drewN q

set_option maxHeartbeats 400000 in
theorem mutableChild_any (F : Keep) (B tb n i : Nat) (nd ndc : Nd) (ks : List Nat) (σ : Store) (w : World) (hg : Gen tb w) (he : Env F B σ w) (hn : σ n = some nd) (hk : nd.kids = some ks) (hi : i < ks.length) (hc : σ ks[i] = some ndc) :
    Calls Try.prog 53 #[.pointer (some ⟨tb, 0, none⟩), ptr n, .int .i64 i] w fun e w' => e = .returned (ptr ks[i]) ∧ Env F B σ w' ∧ Below B w w' := by
  have hN := he.rep n nd hn
  have h1 := hN.khdr
  rw [hk] at h1
  simp only [kidsVal] at h1
  have h2 := hN.kid hk hi
  have h3 := (hN.kids ks hk).frozen i
  have hlen := hN.klen hk
  have hi1 : (0 : Int) ≤ (i : Int) := Int.natCast_nonneg _
  have hi2 : (i : Int) < (ks.length : Int) := by omega
  have HC := mutable_any tb ks[i] ndc w hg (he.rep _ _ hc)
  generalize hkk : ks[i] = c at *
  have HKK : Hid (ks[i] = c) := hkk
  clear hkk
  have HK : Hid (nd.kids = some ks) := hk
  have HN : Hid (σ n = some nd) := hn
  clear hk hn hc hN
  unfold ptr at *
  go_enter Try.func53, Try.ntmps53
  go_wp2_with fail
  refine HC.mono ?_
  rintro e w' ⟨rfl, q, rfl⟩
  go_wp2_with fail
  go_ret
  have hself := setCell_self (w.drewN q) (n + 2) i _ h2
  rw [hself]
  exact ⟨rfl, he.chg0 (drewN_chg w q), below0 he.size (drewN_chg w q)⟩
end Go.Proofs.Qxb6603401a
