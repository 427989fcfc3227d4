import Derived.Test.Qxb6603401aWalkY
import Derived.Test.Qxb6603401aCheck
namespace Go.Proofs.Qxb6603401a
open Go Go.RowKit Go.Deep
set_option linter.unusedSimpArgs false
set_option linter.unusedVariables false

set_option maxHeartbeats 4000000 in
theorem check_nil (tb : Nat) (w : World) (hc0 : w.cell? ⟨tb, 0, none⟩ = some (.pointer none)) :
    Calls Try.prog 16 #[.pointer (some ⟨tb, 0, none⟩), .bool false, .bool true] w fun e w' => (∃ (a : Int) (b : Bool) (c : ByteArray) (d : Int) (oa : Option Addr) (on oc : Nat), e = .returned (.agg #[.bool true, .int .i64 a, .bool b, .string c, .int .i64 d, .bool true, .slice oa on oc]) ∧ EsAt w.heap.size w' (.slice oa on oc) []) ∧ Chg [] w w' := by
  have htl : tb < w.heap.size := World.block_lt_of_cell? w _ hc0
  have hz := binNil30
  have hcW : Chg [] w ((w.alloc (.cells #[.bool false, .int .i64 0, .bool false, .string ⟨#[]⟩, .int .i64 0, .bool false, .slice none 0 0] 39)).alloc (.cells #[.bool true, .int .i64 (-1), .bool false, .string ⟨#[]⟩, .int .i64 0, .bool true, .slice none 0 0] 39)) := ((Chg.refl _ _).alloc _).alloc _
  have hr0 : ((w.alloc (.cells #[.bool false, .int .i64 0, .bool false, .string ⟨#[]⟩, .int .i64 0, .bool false, .slice none 0 0] 39)).alloc (.cells #[.bool true, .int .i64 (-1), .bool false, .string ⟨#[]⟩, .int .i64 0, .bool true, .slice none 0 0] 39)).heap[w.heap.size]? = some (.cells #[.bool false, .int .i64 0, .bool false, .string ⟨#[]⟩, .int .i64 0, .bool false, .slice none 0 0] 39 (0, 0)) := by
    rw [Below.heap_alloc _ _ _ (by simp)]; exact heap_alloc_new w _
  have hr1 : ((w.alloc (.cells #[.bool false, .int .i64 0, .bool false, .string ⟨#[]⟩, .int .i64 0, .bool false, .slice none 0 0] 39)).alloc (.cells #[.bool true, .int .i64 (-1), .bool false, .string ⟨#[]⟩, .int .i64 0, .bool true, .slice none 0 0] 39)).heap[w.heap.size + 1]? = some (wsObj (-1) none 0 true (.slice none 0 0)) := by
    have := heap_alloc_new (w.alloc (.cells #[.bool false, .int .i64 0, .bool false, .string ⟨#[]⟩, .int .i64 0, .bool false, .slice none 0 0] 39)) (.cells #[.bool true, .int .i64 (-1), .bool false, .string ⟨#[]⟩, .int .i64 0, .bool true, .slice none 0 0] 39)
    simpa [wsObj] using this
  have A18 := acc18 tb (.pointer none) _ (hcW.cell hc0 (by simp))
  go_enter Try.func16, Try.ntmps16
  go_wp2_with fail
  generalize hW : ((w.alloc (.cells #[.bool false, .int .i64 0, .bool false, .string ⟨#[]⟩, .int .i64 0, .bool false, .slice none 0 0] 39)).alloc (.cells #[.bool true, .int .i64 (-1), .bool false, .string ⟨#[]⟩, .int .i64 0, .bool true, .slice none 0 0] 39)) = w2 at *
  clear hW
  refine A18.mono ?_
  rintro e w3 ⟨rfl, rfl⟩
  have HRV := hr0
  have p0 : w2.cell? ⟨w.heap.size + 1, 0, none⟩ = some (.bool true) := (Lib.cell_of_heap hr1 0).trans rfl
  have p1 : w2.cell? ⟨w.heap.size + 1, 1, none⟩ = some (.int .i64 (-1)) := (Lib.cell_of_heap hr1 1).trans rfl
  have p2 : w2.cell? ⟨w.heap.size + 1, 2, none⟩ = some (.bool false) := (Lib.cell_of_heap hr1 2).trans rfl
  have p3 : w2.cell? ⟨w.heap.size + 1, 3, none⟩ = some (.string ⟨#[]⟩) := (Lib.cell_of_heap hr1 3).trans rfl
  have p4 : w2.cell? ⟨w.heap.size + 1, 4, none⟩ = some (.int .i64 0) := (Lib.cell_of_heap hr1 4).trans rfl
  have p5 : w2.cell? ⟨w.heap.size + 1, 5, none⟩ = some (.bool true) := (Lib.cell_of_heap hr1 5).trans rfl
  have p6 : w2.cell? ⟨w.heap.size + 1, 6, none⟩ = some (.slice none 0 0) := (Lib.cell_of_heap hr1 6).trans rfl
  have q0 : w2.cell? ⟨w.heap.size, 0, none⟩ = some (.bool false) := (Lib.cell_of_heap hr0 0).trans rfl
  have r0 : w2.frozen? ⟨w.heap.size, 0, none⟩ = false := by simp [World.frozen?, hr0]
  have q1 : w2.cell? ⟨w.heap.size, 1, none⟩ = some (.int .i64 0) := (Lib.cell_of_heap hr0 1).trans rfl
  have r1 : w2.frozen? ⟨w.heap.size, 1, none⟩ = false := by simp [World.frozen?, hr0]
  have q2 : w2.cell? ⟨w.heap.size, 2, none⟩ = some (.bool false) := (Lib.cell_of_heap hr0 2).trans rfl
  have r2 : w2.frozen? ⟨w.heap.size, 2, none⟩ = false := by simp [World.frozen?, hr0]
  have q3 : w2.cell? ⟨w.heap.size, 3, none⟩ = some (.string ⟨#[]⟩) := (Lib.cell_of_heap hr0 3).trans rfl
  have r3 : w2.frozen? ⟨w.heap.size, 3, none⟩ = false := by simp [World.frozen?, hr0]
  have q4 : w2.cell? ⟨w.heap.size, 4, none⟩ = some (.int .i64 0) := (Lib.cell_of_heap hr0 4).trans rfl
  have r4 : w2.frozen? ⟨w.heap.size, 4, none⟩ = false := by simp [World.frozen?, hr0]
  have q5 : w2.cell? ⟨w.heap.size, 5, none⟩ = some (.bool false) := (Lib.cell_of_heap hr0 5).trans rfl
  have r5 : w2.frozen? ⟨w.heap.size, 5, none⟩ = false := by simp [World.frozen?, hr0]
  have q6 : w2.cell? ⟨w.heap.size, 6, none⟩ = some (.slice none 0 0) := (Lib.cell_of_heap hr0 6).trans rfl
  have r6 : w2.frozen? ⟨w.heap.size, 6, none⟩ = false := by simp [World.frozen?, hr0]
  have lt5 : w.heap.size < w2.heap.size := World.block_lt_of_cell? w2 _ q0
  clear hr0 hr1
  go_wp2_with fail
  have hst : Chg [w.heap.size] w2 (((((((w2.setCell ⟨w.heap.size, 0, none⟩ (.bool true)).setCell ⟨w.heap.size, 1, none⟩ (.int .i64 (-1))).setCell ⟨w.heap.size, 2, none⟩ (.bool false)).setCell ⟨w.heap.size, 3, none⟩ (.string ⟨#[]⟩)).setCell ⟨w.heap.size, 4, none⟩ (.int .i64 0)).setCell ⟨w.heap.size, 5, none⟩ (.bool true)).setCell ⟨w.heap.size, 6, none⟩ (.slice none 0 0)) := ((((((((Chg.refl _ _).setCell (.inl (by simp)) _).setCell (.inl (by simp)) _).setCell (.inl (by simp)) _).setCell (.inl (by simp)) _).setCell (.inl (by simp)) _).setCell (.inl (by simp)) _).setCell (.inl (by simp)) _)
  have hq := setCell_heap (j := 6) (setCell_heap (j := 5) (setCell_heap (j := 4) (setCell_heap (j := 3) (setCell_heap (j := 2) (setCell_heap (j := 1) (setCell_heap (j := 0) HRV (.bool true)) (.int .i64 (-1))) (.bool false)) (.string ⟨#[]⟩)) (.int .i64 0)) (.bool true)) (.slice none 0 0)
  generalize (((((((w2.setCell ⟨w.heap.size, 0, none⟩ (.bool true)).setCell ⟨w.heap.size, 1, none⟩ (.int .i64 (-1))).setCell ⟨w.heap.size, 2, none⟩ (.bool false)).setCell ⟨w.heap.size, 3, none⟩ (.string ⟨#[]⟩)).setCell ⟨w.heap.size, 4, none⟩ (.int .i64 0)).setCell ⟨w.heap.size, 5, none⟩ (.bool true)).setCell ⟨w.heap.size, 6, none⟩ (.slice none 0 0)) = wf at *
  have s0 : wf.cell? ⟨w.heap.size, 0, none⟩ = some (.bool true) := (Lib.cell_of_heap hq 0).trans rfl
  have s1 : wf.cell? ⟨w.heap.size, 1, none⟩ = some (.int .i64 (-1)) := (Lib.cell_of_heap hq 1).trans rfl
  have s2 : wf.cell? ⟨w.heap.size, 2, none⟩ = some (.bool false) := (Lib.cell_of_heap hq 2).trans rfl
  have s3 : wf.cell? ⟨w.heap.size, 3, none⟩ = some (.string ⟨#[]⟩) := (Lib.cell_of_heap hq 3).trans rfl
  have s4 : wf.cell? ⟨w.heap.size, 4, none⟩ = some (.int .i64 0) := (Lib.cell_of_heap hq 4).trans rfl
  have s5 : wf.cell? ⟨w.heap.size, 5, none⟩ = some (.bool true) := (Lib.cell_of_heap hq 5).trans rfl
  have s6 : wf.cell? ⟨w.heap.size, 6, none⟩ = some (.slice none 0 0) := (Lib.cell_of_heap hq 6).trans rfl
  refine bodyPost_ret (v := .agg #[(.bool true), (.int .i64 (-1)), (.bool false), (.string ⟨#[]⟩), (.int .i64 0), (.bool true), (.slice none 0 0)]) (by simp [results, Try.results16, go_sem, s0, s1, s2, s3, s4, s5, s6]; done) rfl ⟨⟨_, _, _, _, _, _, _, rfl, ?_⟩, ?_⟩
  · exact World.ownsRow_nil _ _ _ _
  · exact hcW.later hst (fun x hx => by simp only [List.mem_singleton] at hx; omega)

set_option maxHeartbeats 4000000 in
theorem check_full (tb : Nat) (w : World) (d : Nat) (t : Tr d) (σ : Store) (m : Nat) (hc0 : w.cell? ⟨tb, 0, none⟩ = some (ptr t.root)) (he : Env noKeep (tb + 1) σ w) (hh : Has σ t) (hok : t.Ok m) (hd : d ≤ 64) (hs : Sorted t.ents) (hn : t.ents.length ≤ 1000000) (zn : t.its.length ≠ 0) :
    Calls Try.prog 16 #[.pointer (some ⟨tb, 0, none⟩), .bool false, .bool true] w fun e w' => (∃ (a : Int) (b : Bool) (c : ByteArray) (d : Int) (oa : Option Addr) (on oc : Nat), e = .returned (.agg #[.bool true, .int .i64 a, .bool b, .string c, .int .i64 d, .bool true, .slice oa on oc]) ∧ EsAt w.heap.size w' (.slice oa on oc) t.ents) ∧ Chg [] w w' := by
  have htl : tb < w.heap.size := World.block_lt_of_cell? w _ hc0
  have hz := binNil30
  have hcW : Chg [] w ((w.alloc (.cells #[.bool false, .int .i64 0, .bool false, .string ⟨#[]⟩, .int .i64 0, .bool false, .slice none 0 0] 39)).alloc (.cells #[.bool true, .int .i64 (-1), .bool false, .string ⟨#[]⟩, .int .i64 0, .bool true, .slice none 0 0] 39)) := ((Chg.refl _ _).alloc _).alloc _
  have hr0 : ((w.alloc (.cells #[.bool false, .int .i64 0, .bool false, .string ⟨#[]⟩, .int .i64 0, .bool false, .slice none 0 0] 39)).alloc (.cells #[.bool true, .int .i64 (-1), .bool false, .string ⟨#[]⟩, .int .i64 0, .bool true, .slice none 0 0] 39)).heap[w.heap.size]? = some (.cells #[.bool false, .int .i64 0, .bool false, .string ⟨#[]⟩, .int .i64 0, .bool false, .slice none 0 0] 39 (0, 0)) := by
    rw [Below.heap_alloc _ _ _ (by simp)]; exact heap_alloc_new w _
  have hr1 : ((w.alloc (.cells #[.bool false, .int .i64 0, .bool false, .string ⟨#[]⟩, .int .i64 0, .bool false, .slice none 0 0] 39)).alloc (.cells #[.bool true, .int .i64 (-1), .bool false, .string ⟨#[]⟩, .int .i64 0, .bool true, .slice none 0 0] 39)).heap[w.heap.size + 1]? = some (wsObj (-1) none 0 true (.slice none 0 0)) := by
    have := heap_alloc_new (w.alloc (.cells #[.bool false, .int .i64 0, .bool false, .string ⟨#[]⟩, .int .i64 0, .bool false, .slice none 0 0] 39)) (.cells #[.bool true, .int .i64 (-1), .bool false, .string ⟨#[]⟩, .int .i64 0, .bool true, .slice none 0 0] 39)
    simpa [wsObj] using this
  have A18 := acc18 tb (ptr t.root) _ (hcW.cell hc0 (by simp))
  have heW := (he.chg0 hcW).bare
  have HWK := walkY_all d t m true 0 (tb + 1) σ ((w.alloc (.cells #[.bool false, .int .i64 0, .bool false, .string ⟨#[]⟩, .int .i64 0, .bool false, .slice none 0 0] 39)).alloc (.cells #[.bool true, .int .i64 (-1), .bool false, .string ⟨#[]⟩, .int .i64 0, .bool true, .slice none 0 0] 39)) (w.heap.size + 1) (-1) none 0 (.slice none 0 0) w.heap.size [] heW hh.here hok (fun h => by cases h) (by omega) (.inl (by omega)) hs (fun l hl => by cases hl) hr1 (World.ownsRow_nil _ _ _ _) hcW.size (by simp; omega) (by omega)
  have hN := heW.rep _ _ hh.here.in_root
  have h1 : ((w.alloc (.cells #[.bool false, .int .i64 0, .bool false, .string ⟨#[]⟩, .int .i64 0, .bool false, .slice none 0 0] 39)).alloc (.cells #[.bool true, .int .i64 (-1), .bool false, .string ⟨#[]⟩, .int .i64 0, .bool true, .slice none 0 0] 39)).cell? ⟨t.root + 1, 1, none⟩ = some (.slice (some ⟨t.root, 0, none⟩) t.its.length 31) := by
    have := hN.hdr
    rw [t.nd_its] at this
    exact this
  have A40 := acc40 t.root t.its.length _ h1
  rw [Nat.zero_add, Nat.zero_add, List.nil_append] at HWK
  generalize lastK none t.ents = lk at HWK
  generalize t.ents.length = N at HWK
  have z1 : (0 : Int) < (t.its.length : Int) := by omega
  have z2 : (t.its.length : Int) ≠ 0 := by omega
  have HR : Hid (((w.alloc (.cells #[.bool false, .int .i64 0, .bool false, .string ⟨#[]⟩, .int .i64 0, .bool false, .slice none 0 0] 39)).alloc (.cells #[.bool true, .int .i64 (-1), .bool false, .string ⟨#[]⟩, .int .i64 0, .bool true, .slice none 0 0] 39)).heap[w.heap.size]? = some (.cells #[.bool false, .int .i64 0, .bool false, .string ⟨#[]⟩, .int .i64 0, .bool false, .slice none 0 0] 39 (0, 0)) ∧ Chg [] w ((w.alloc (.cells #[.bool false, .int .i64 0, .bool false, .string ⟨#[]⟩, .int .i64 0, .bool false, .slice none 0 0] 39)).alloc (.cells #[.bool true, .int .i64 (-1), .bool false, .string ⟨#[]⟩, .int .i64 0, .bool true, .slice none 0 0] 39))) := ⟨hr0, hcW⟩
  clear hN heW he hh hok hs hr0 hr1 hcW h1 hd hn
  generalize t.root = rt at *
  generalize t.ents = es at *
  generalize t.its.length = L at *
  unfold ptr at *
  go_enter Try.func16, Try.ntmps16
  go_wp2_with fail
  generalize hW : ((w.alloc (.cells #[.bool false, .int .i64 0, .bool false, .string ⟨#[]⟩, .int .i64 0, .bool false, .slice none 0 0] 39)).alloc (.cells #[.bool true, .int .i64 (-1), .bool false, .string ⟨#[]⟩, .int .i64 0, .bool true, .slice none 0 0] 39)) = w2 at *
  clear hW
  refine A18.mono ?_
  rintro e w3 ⟨rfl, rfl⟩
  go_wp2_with fail
  refine A40.mono ?_
  rintro e w4 ⟨rfl, rfl⟩
  go_wp2_with fail
  refine HWK.mono ?_
  rintro e w5 ⟨rfl, o5, hp5, ho5, hc5⟩
  obtain ⟨oa, on, oc, rfl⟩ : ∃ a n c, o5 = .slice a n c := by
    rcases ho5.forms with ⟨rfl, _⟩ | ⟨g, cap, rfl, _⟩
    · exact ⟨_, _, _, rfl⟩
    · exact ⟨_, _, _, rfl⟩
  have hcc : Chg [w.heap.size + 1] w2 w5 := hc5.chg
  have HRV := hcc.heap HR.out.1 (by simp)
  have p0 : w5.cell? ⟨w.heap.size + 1, 0, none⟩ = some (.bool true) := (Lib.cell_of_heap hp5 0).trans rfl
  have p1 : w5.cell? ⟨w.heap.size + 1, 1, none⟩ = some (.int .i64 (d : Nat)) := (Lib.cell_of_heap hp5 1).trans rfl
  have p2 : w5.cell? ⟨w.heap.size + 1, 2, none⟩ = some (.bool lk.isSome) := (Lib.cell_of_heap hp5 2).trans rfl
  have p3 : w5.cell? ⟨w.heap.size + 1, 3, none⟩ = some (.string (lk.getD ⟨#[]⟩)) := (Lib.cell_of_heap hp5 3).trans rfl
  have p4 : w5.cell? ⟨w.heap.size + 1, 4, none⟩ = some (.int .i64 (N : Nat)) := (Lib.cell_of_heap hp5 4).trans rfl
  have p5 : w5.cell? ⟨w.heap.size + 1, 5, none⟩ = some (.bool true) := (Lib.cell_of_heap hp5 5).trans rfl
  have p6 : w5.cell? ⟨w.heap.size + 1, 6, none⟩ = some (.slice oa on oc) := (Lib.cell_of_heap hp5 6).trans rfl
  have q0 : w5.cell? ⟨w.heap.size, 0, none⟩ = some (.bool false) := (Lib.cell_of_heap HRV 0).trans rfl
  have r0 : w5.frozen? ⟨w.heap.size, 0, none⟩ = false := by simp [World.frozen?, HRV]
  have q1 : w5.cell? ⟨w.heap.size, 1, none⟩ = some (.int .i64 0) := (Lib.cell_of_heap HRV 1).trans rfl
  have r1 : w5.frozen? ⟨w.heap.size, 1, none⟩ = false := by simp [World.frozen?, HRV]
  have q2 : w5.cell? ⟨w.heap.size, 2, none⟩ = some (.bool false) := (Lib.cell_of_heap HRV 2).trans rfl
  have r2 : w5.frozen? ⟨w.heap.size, 2, none⟩ = false := by simp [World.frozen?, HRV]
  have q3 : w5.cell? ⟨w.heap.size, 3, none⟩ = some (.string ⟨#[]⟩) := (Lib.cell_of_heap HRV 3).trans rfl
  have r3 : w5.frozen? ⟨w.heap.size, 3, none⟩ = false := by simp [World.frozen?, HRV]
  have q4 : w5.cell? ⟨w.heap.size, 4, none⟩ = some (.int .i64 0) := (Lib.cell_of_heap HRV 4).trans rfl
  have r4 : w5.frozen? ⟨w.heap.size, 4, none⟩ = false := by simp [World.frozen?, HRV]
  have q5 : w5.cell? ⟨w.heap.size, 5, none⟩ = some (.bool false) := (Lib.cell_of_heap HRV 5).trans rfl
  have r5 : w5.frozen? ⟨w.heap.size, 5, none⟩ = false := by simp [World.frozen?, HRV]
  have q6 : w5.cell? ⟨w.heap.size, 6, none⟩ = some (.slice none 0 0) := (Lib.cell_of_heap HRV 6).trans rfl
  have r6 : w5.frozen? ⟨w.heap.size, 6, none⟩ = false := by simp [World.frozen?, HRV]
  have lt5 : w.heap.size < w5.heap.size := World.block_lt_of_cell? w5 _ q0
  have hcW := HR.out.2.later hcc (fun x hx => by simp only [List.mem_singleton] at hx; omega)
  have HO5 : Hid (EsAt w.heap.size w5 (.slice oa on oc) es ∧ w.heap.size ∉ own (.slice oa on oc)) := ⟨ho5, fun hm => by
    obtain ⟨_, c, h9⟩ := ho5.typed hm
    rw [HRV] at h9
    simp at h9⟩
  clear hp5 hc5 hcc ho5 HWK A18 A40
  go_wp2_with fail
  have hst : Chg [w.heap.size] w5 (((((((w5.setCell ⟨w.heap.size, 0, none⟩ (.bool true)).setCell ⟨w.heap.size, 1, none⟩ (.int .i64 (d : Nat))).setCell ⟨w.heap.size, 2, none⟩ (.bool lk.isSome)).setCell ⟨w.heap.size, 3, none⟩ (.string (lk.getD ⟨#[]⟩))).setCell ⟨w.heap.size, 4, none⟩ (.int .i64 (N : Nat))).setCell ⟨w.heap.size, 5, none⟩ (.bool true)).setCell ⟨w.heap.size, 6, none⟩ (.slice oa on oc)) := ((((((((Chg.refl _ _).setCell (.inl (by simp)) _).setCell (.inl (by simp)) _).setCell (.inl (by simp)) _).setCell (.inl (by simp)) _).setCell (.inl (by simp)) _).setCell (.inl (by simp)) _).setCell (.inl (by simp)) _)
  have hq := setCell_heap (j := 6) (setCell_heap (j := 5) (setCell_heap (j := 4) (setCell_heap (j := 3) (setCell_heap (j := 2) (setCell_heap (j := 1) (setCell_heap (j := 0) HRV (.bool true)) (.int .i64 (d : Nat))) (.bool lk.isSome)) (.string (lk.getD ⟨#[]⟩))) (.int .i64 (N : Nat))) (.bool true)) (.slice oa on oc)
  generalize (((((((w5.setCell ⟨w.heap.size, 0, none⟩ (.bool true)).setCell ⟨w.heap.size, 1, none⟩ (.int .i64 (d : Nat))).setCell ⟨w.heap.size, 2, none⟩ (.bool lk.isSome)).setCell ⟨w.heap.size, 3, none⟩ (.string (lk.getD ⟨#[]⟩))).setCell ⟨w.heap.size, 4, none⟩ (.int .i64 (N : Nat))).setCell ⟨w.heap.size, 5, none⟩ (.bool true)).setCell ⟨w.heap.size, 6, none⟩ (.slice oa on oc)) = wf at *
  have s0 : wf.cell? ⟨w.heap.size, 0, none⟩ = some (.bool true) := (Lib.cell_of_heap hq 0).trans rfl
  have s1 : wf.cell? ⟨w.heap.size, 1, none⟩ = some (.int .i64 (d : Nat)) := (Lib.cell_of_heap hq 1).trans rfl
  have s2 : wf.cell? ⟨w.heap.size, 2, none⟩ = some (.bool lk.isSome) := (Lib.cell_of_heap hq 2).trans rfl
  have s3 : wf.cell? ⟨w.heap.size, 3, none⟩ = some (.string (lk.getD ⟨#[]⟩)) := (Lib.cell_of_heap hq 3).trans rfl
  have s4 : wf.cell? ⟨w.heap.size, 4, none⟩ = some (.int .i64 (N : Nat)) := (Lib.cell_of_heap hq 4).trans rfl
  have s5 : wf.cell? ⟨w.heap.size, 5, none⟩ = some (.bool true) := (Lib.cell_of_heap hq 5).trans rfl
  have s6 : wf.cell? ⟨w.heap.size, 6, none⟩ = some (.slice oa on oc) := (Lib.cell_of_heap hq 6).trans rfl
  refine bodyPost_ret (v := .agg #[(.bool true), (.int .i64 (d : Nat)), (.bool lk.isSome), (.string (lk.getD ⟨#[]⟩)), (.int .i64 (N : Nat)), (.bool true), (.slice oa on oc)]) (by simp [results, Try.results16, go_sem, s0, s1, s2, s3, s4, s5, s6]; done) rfl ⟨⟨_, _, _, _, _, _, _, rfl, ?_⟩, ?_⟩
  · exact HO5.out.1.chg hst (fun g hg hm => HO5.out.2 (by have := List.mem_singleton.1 hm; subst this; exact mem_own.2 hg))
  · exact hcW.later hst (fun x hx => by simp only [List.mem_singleton] at hx; omega)

/-- checkTree with collect, on a tree. -/
theorem check_yes (F : Keep) (tb : Nat) (w : World) (es : List It) (h : TreeAt F tb w es) (hn : es.length ≤ 1000000) :
    Calls Try.prog 16 #[.pointer (some ⟨tb, 0, none⟩), .bool false, .bool true] w fun e w' => (∃ (a : Int) (b : Bool) (c : ByteArray) (d : Int) (oa : Option Addr) (on oc : Nat), e = .returned (.agg #[.bool true, .int .i64 a, .bool b, .string c, .int .i64 d, .bool true, .slice oa on oc]) ∧ EsAt w.heap.size w' (.slice oa on oc) es) ∧ Chg [] w w' := by
  obtain ⟨root, hh0, hroot⟩ := h.is
  have hc0 : w.cell? ⟨tb, 0, none⟩ = some root := (Lib.cell_of_heap hh0 0).trans rfl
  rcases hroot with ⟨rfl, rfl, _⟩ | ⟨d, t, σ, rfl, he, hh, hok, rfl⟩
  · exact check_nil tb w hc0
  · exact check_full tb w d t σ 1 hc0 he.bare hh hok (t.deep64 hok hn) h.sorted hn (by have := t.ok_len hok; omega)
end Go.Proofs.Qxb6603401a
