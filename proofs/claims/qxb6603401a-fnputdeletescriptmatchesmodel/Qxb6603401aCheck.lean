import Derived.Test.Qxb6603401aWalkT
import Derived.Test.Qxb6603401aDepth
namespace Go.Proofs.Qxb6603401a
open Go Go.RowKit
set_option linter.unusedSimpArgs false
set_option linter.unusedVariables false

/-- Blocks that are new since a have turned. -/
theorem Chg.later {S S' : List Nat} {a b c : World} (h : Chg S a b) (k : Chg S' b c) (hS : ∀ x ∈ S', a.heap.size ≤ x) : Chg S a c :=
  ⟨k.os.trans h.os, k.tape.trans h.tape, k.output.trans h.output, Nat.le_trans h.size k.size, fun i hi hn => (k.block i (Nat.lt_of_lt_of_le hi h.size) (fun hm => by have := hS i hm; omega)).trans (h.block i hi hn)⟩

set_option maxHeartbeats 4000000 in
theorem check_no (F : Keep) (tb : Nat) (w : World) (es : List It) (h : TreeAt F tb w es) (hn : es.length ≤ 1000000) :
    Calls Try.prog 16 #[.pointer (some ⟨tb, 0, none⟩), .bool false, .bool false] w fun e w' => (∃ (a : Int) (b : Bool) (c : ByteArray) (d : Int), e = .returned (.agg #[.bool true, .int .i64 a, .bool b, .string c, .int .i64 d, .bool false, .slice none 0 0])) ∧ Chg [] w w' := by
  obtain ⟨root, hh0, hroot⟩ := h.is
  have hs := h.sorted
  have hc0 : w.cell? ⟨tb, 0, none⟩ = some root := (Lib.cell_of_heap hh0 0).trans rfl
  have htl : tb < w.heap.size := World.block_lt_of_cell? w _ hc0
  have hz := binNil30
  clear h
  have hcW : Chg [] w ((w.alloc (.cells #[.bool false, .int .i64 0, .bool false, .string ⟨#[]⟩, .int .i64 0, .bool false, .slice none 0 0] 39)).alloc (.cells #[.bool true, .int .i64 (-1), .bool false, .string ⟨#[]⟩, .int .i64 0, .bool false, .slice none 0 0] 39)) := ((Chg.refl _ _).alloc _).alloc _
  have hr0 : ((w.alloc (.cells #[.bool false, .int .i64 0, .bool false, .string ⟨#[]⟩, .int .i64 0, .bool false, .slice none 0 0] 39)).alloc (.cells #[.bool true, .int .i64 (-1), .bool false, .string ⟨#[]⟩, .int .i64 0, .bool false, .slice none 0 0] 39)).heap[w.heap.size]? = some (.cells #[.bool false, .int .i64 0, .bool false, .string ⟨#[]⟩, .int .i64 0, .bool false, .slice none 0 0] 39 (0, 0)) := by
    rw [Below.heap_alloc _ _ _ (by simp)]; exact heap_alloc_new w _
  have hr1 : ((w.alloc (.cells #[.bool false, .int .i64 0, .bool false, .string ⟨#[]⟩, .int .i64 0, .bool false, .slice none 0 0] 39)).alloc (.cells #[.bool true, .int .i64 (-1), .bool false, .string ⟨#[]⟩, .int .i64 0, .bool false, .slice none 0 0] 39)).heap[w.heap.size + 1]? = some (wsObj (-1) none 0 false (.slice none 0 0)) := by
    have := heap_alloc_new (w.alloc (.cells #[.bool false, .int .i64 0, .bool false, .string ⟨#[]⟩, .int .i64 0, .bool false, .slice none 0 0] 39)) (.cells #[.bool true, .int .i64 (-1), .bool false, .string ⟨#[]⟩, .int .i64 0, .bool false, .slice none 0 0] 39)
    simpa [wsObj] using this
  have A18 := acc18 tb root _ (hcW.cell hc0 (by simp))
  go_enter Try.func16, Try.ntmps16
  go_wp2_with fail
  generalize hW : ((w.alloc (.cells #[.bool false, .int .i64 0, .bool false, .string ⟨#[]⟩, .int .i64 0, .bool false, .slice none 0 0] 39)).alloc (.cells #[.bool true, .int .i64 (-1), .bool false, .string ⟨#[]⟩, .int .i64 0, .bool false, .slice none 0 0] 39)) = w2 at *
  clear hW
  refine A18.mono ?_
  rintro e w3 ⟨rfl, rfl⟩
  rcases hroot with ⟨rfl, rfl, _⟩ | ⟨d, t, σ, rfl, he, hh, hok, hen⟩
  · have HRV := hr0
    have p0 : w2.cell? ⟨w.heap.size + 1, 0, none⟩ = some (.bool true) := (Lib.cell_of_heap hr1 0).trans rfl
    have p1 : w2.cell? ⟨w.heap.size + 1, 1, none⟩ = some (.int .i64 (-1)) := (Lib.cell_of_heap hr1 1).trans rfl
    have p2 : w2.cell? ⟨w.heap.size + 1, 2, none⟩ = some (.bool false) := (Lib.cell_of_heap hr1 2).trans rfl
    have p3 : w2.cell? ⟨w.heap.size + 1, 3, none⟩ = some (.string ⟨#[]⟩) := (Lib.cell_of_heap hr1 3).trans rfl
    have p4 : w2.cell? ⟨w.heap.size + 1, 4, none⟩ = some (.int .i64 0) := (Lib.cell_of_heap hr1 4).trans rfl
    have p5 : w2.cell? ⟨w.heap.size + 1, 5, none⟩ = some (.bool false) := (Lib.cell_of_heap hr1 5).trans rfl
    have p6 : w2.cell? ⟨w.heap.size + 1, 6, none⟩ = some (.slice none 0 0) := (Lib.cell_of_heap hr1 6).trans rfl
    have q0 : w2.cell? ⟨w.heap.size, 0, none⟩ = some (.bool false) := (Lib.cell_of_heap hr0 0).trans rfl
    have r0 : w2.frozen? ⟨w.heap.size, 0, none⟩ = false := by simp [World.frozen?, hr0]
    have q1 : w2.cell? ⟨w.heap.size, 1, none⟩ = some (.int .i64 0) := (Lib.cell_of_heap hr0 1).trans rfl
    have r1 : w2.frozen? ⟨w.heap.size, 1, none⟩ = false := by simp [World.frozen?, hr0]
    have q2 : w2.cell? ⟨w.heap.size, 2, none⟩ = some (.bool false) := (Lib.cell_of_heap hr0 2).trans rfl
    have r2 : w2.frozen? ⟨w.heap.size, 2, none⟩ = false := by simp [World.frozen?, hr0]
    have q3 : w2.cell? ⟨w.heap.size, 3, none⟩ = some (.string ⟨#[]⟩) := (Lib.cell_of_heap hr0 3).trans rfl
    have r3 : w2.frozen? ⟨w.heap.size, 3, none⟩ = false := by simp [World.frozen?, hr0]
    have q4 : w2.cell? ⟨w.heap.size, 4, none⟩ = some (.int .i64 0) := (Lib.cell_of_heap hr0 4).trans rfl
    have r4 : w2.frozen? ⟨w.heap.size, 4, none⟩ = false := by simp [World.frozen?, hr0]
    have q5 : w2.cell? ⟨w.heap.size, 5, none⟩ = some (.bool false) := (Lib.cell_of_heap hr0 5).trans rfl
    have r5 : w2.frozen? ⟨w.heap.size, 5, none⟩ = false := by simp [World.frozen?, hr0]
    have q6 : w2.cell? ⟨w.heap.size, 6, none⟩ = some (.slice none 0 0) := (Lib.cell_of_heap hr0 6).trans rfl
    have r6 : w2.frozen? ⟨w.heap.size, 6, none⟩ = false := by simp [World.frozen?, hr0]
    have lt5 : w.heap.size < w2.heap.size := World.block_lt_of_cell? w2 _ q0
    clear hr0 hr1
    go_wp2_with fail
    have hst : Chg [w.heap.size] w2 (((((((w2.setCell ⟨w.heap.size, 0, none⟩ (.bool true)).setCell ⟨w.heap.size, 1, none⟩ (.int .i64 (-1))).setCell ⟨w.heap.size, 2, none⟩ (.bool false)).setCell ⟨w.heap.size, 3, none⟩ (.string ⟨#[]⟩)).setCell ⟨w.heap.size, 4, none⟩ (.int .i64 0)).setCell ⟨w.heap.size, 5, none⟩ (.bool false)).setCell ⟨w.heap.size, 6, none⟩ (.slice none 0 0)) := ((((((((Chg.refl _ _).setCell (.inl (by simp)) _).setCell (.inl (by simp)) _).setCell (.inl (by simp)) _).setCell (.inl (by simp)) _).setCell (.inl (by simp)) _).setCell (.inl (by simp)) _).setCell (.inl (by simp)) _)
    have hq := setCell_heap (j := 6) (setCell_heap (j := 5) (setCell_heap (j := 4) (setCell_heap (j := 3) (setCell_heap (j := 2) (setCell_heap (j := 1) (setCell_heap (j := 0) HRV (.bool true)) (.int .i64 (-1))) (.bool false)) (.string ⟨#[]⟩)) (.int .i64 0)) (.bool false)) (.slice none 0 0)
    generalize (((((((w2.setCell ⟨w.heap.size, 0, none⟩ (.bool true)).setCell ⟨w.heap.size, 1, none⟩ (.int .i64 (-1))).setCell ⟨w.heap.size, 2, none⟩ (.bool false)).setCell ⟨w.heap.size, 3, none⟩ (.string ⟨#[]⟩)).setCell ⟨w.heap.size, 4, none⟩ (.int .i64 0)).setCell ⟨w.heap.size, 5, none⟩ (.bool false)).setCell ⟨w.heap.size, 6, none⟩ (.slice none 0 0)) = wf at *
    have s0 : wf.cell? ⟨w.heap.size, 0, none⟩ = some (.bool true) := (Lib.cell_of_heap hq 0).trans rfl
    have s1 : wf.cell? ⟨w.heap.size, 1, none⟩ = some (.int .i64 (-1)) := (Lib.cell_of_heap hq 1).trans rfl
    have s2 : wf.cell? ⟨w.heap.size, 2, none⟩ = some (.bool false) := (Lib.cell_of_heap hq 2).trans rfl
    have s3 : wf.cell? ⟨w.heap.size, 3, none⟩ = some (.string ⟨#[]⟩) := (Lib.cell_of_heap hq 3).trans rfl
    have s4 : wf.cell? ⟨w.heap.size, 4, none⟩ = some (.int .i64 0) := (Lib.cell_of_heap hq 4).trans rfl
    have s5 : wf.cell? ⟨w.heap.size, 5, none⟩ = some (.bool false) := (Lib.cell_of_heap hq 5).trans rfl
    have s6 : wf.cell? ⟨w.heap.size, 6, none⟩ = some (.slice none 0 0) := (Lib.cell_of_heap hq 6).trans rfl
    refine bodyPost_ret (v := .agg #[(.bool true), (.int .i64 (-1)), (.bool false), (.string ⟨#[]⟩), (.int .i64 0), (.bool false), (.slice none 0 0)]) (by simp [results, Try.results16, go_sem, s0, s1, s2, s3, s4, s5, s6]; done) rfl ⟨⟨_, _, _, _, rfl⟩, ?_⟩
    exact hcW.later hst (fun x hx => by simp only [List.mem_singleton] at hx; omega)
  · have heW := (he.chg0 hcW).bare
    have hd := t.deep64 hok (by rw [hen]; exact hn)
    have HWK := walk_all d t 1 true 0 (tb + 1) σ w2 (w.heap.size + 1) (-1) none 0 (.slice none 0 0) heW hh.here hok (fun h => by cases h) (by omega) (.inl (by omega)) (by rw [hen]; exact hs) (fun l hl => by cases hl) hr1 (by rw [hen]; omega)
    have hN := heW.rep _ _ hh.here.in_root
    have h1 : w2.cell? ⟨t.root + 1, 1, none⟩ = some (.slice (some ⟨t.root, 0, none⟩) t.its.length 31) := by
      have := hN.hdr
      rw [t.nd_its] at this
      exact this
    have A40 := acc40 t.root t.its.length w2 h1
    have hl := t.ok_len hok
    have z1 : (0 : Int) < (t.its.length : Int) := by omega
    have z2 : (t.its.length : Int) ≠ 0 := by omega
    rw [Nat.zero_add, Nat.zero_add] at HWK
    generalize lastK none t.ents = lk at HWK
    generalize t.ents.length = N at HWK
    have zn : t.its.length ≠ 0 := by omega
    generalize t.its.length = L at *
    generalize t.root = rt at *
    have HR : Hid (w2.heap[w.heap.size]? = some (.cells #[.bool false, .int .i64 0, .bool false, .string ⟨#[]⟩, .int .i64 0, .bool false, .slice none 0 0] 39 (0, 0)) ∧ Chg [] w w2) := ⟨hr0, hcW⟩
    clear hN heW he hh hok hen hs hr0 hr1 hcW h1 hd
    unfold ptr at *
    go_wp2_with fail
    refine A40.mono ?_
    rintro e w4 ⟨rfl, rfl⟩
    go_wp2_with fail
    refine HWK.mono ?_
    rintro e w5 ⟨rfl, hp5, hc5⟩
    have HRV := hc5.heap HR.out.1 (by simp)
    have p0 : w5.cell? ⟨w.heap.size + 1, 0, none⟩ = some (.bool true) := (Lib.cell_of_heap hp5 0).trans rfl
    have p1 : w5.cell? ⟨w.heap.size + 1, 1, none⟩ = some (.int .i64 (d : Nat)) := (Lib.cell_of_heap hp5 1).trans rfl
    have p2 : w5.cell? ⟨w.heap.size + 1, 2, none⟩ = some (.bool lk.isSome) := (Lib.cell_of_heap hp5 2).trans rfl
    have p3 : w5.cell? ⟨w.heap.size + 1, 3, none⟩ = some (.string (lk.getD ⟨#[]⟩)) := (Lib.cell_of_heap hp5 3).trans rfl
    have p4 : w5.cell? ⟨w.heap.size + 1, 4, none⟩ = some (.int .i64 (N : Nat)) := (Lib.cell_of_heap hp5 4).trans rfl
    have p5 : w5.cell? ⟨w.heap.size + 1, 5, none⟩ = some (.bool false) := (Lib.cell_of_heap hp5 5).trans rfl
    have p6 : w5.cell? ⟨w.heap.size + 1, 6, none⟩ = some (.slice none 0 0) := (Lib.cell_of_heap hp5 6).trans rfl
    have q0 : w5.cell? ⟨w.heap.size, 0, none⟩ = some (.bool false) := (Lib.cell_of_heap HRV 0).trans rfl
    have r0 : w5.frozen? ⟨w.heap.size, 0, none⟩ = false := by simp [World.frozen?, HRV]
    have q1 : w5.cell? ⟨w.heap.size, 1, none⟩ = some (.int .i64 0) := (Lib.cell_of_heap HRV 1).trans rfl
    have r1 : w5.frozen? ⟨w.heap.size, 1, none⟩ = false := by simp [World.frozen?, HRV]
    have q2 : w5.cell? ⟨w.heap.size, 2, none⟩ = some (.bool false) := (Lib.cell_of_heap HRV 2).trans rfl
    have r2 : w5.frozen? ⟨w.heap.size, 2, none⟩ = false := by simp [World.frozen?, HRV]
    have q3 : w5.cell? ⟨w.heap.size, 3, none⟩ = some (.string ⟨#[]⟩) := (Lib.cell_of_heap HRV 3).trans rfl
    have r3 : w5.frozen? ⟨w.heap.size, 3, none⟩ = false := by simp [World.frozen?, HRV]
    have q4 : w5.cell? ⟨w.heap.size, 4, none⟩ = some (.int .i64 0) := (Lib.cell_of_heap HRV 4).trans rfl
    have r4 : w5.frozen? ⟨w.heap.size, 4, none⟩ = false := by simp [World.frozen?, HRV]
    have q5 : w5.cell? ⟨w.heap.size, 5, none⟩ = some (.bool false) := (Lib.cell_of_heap HRV 5).trans rfl
    have r5 : w5.frozen? ⟨w.heap.size, 5, none⟩ = false := by simp [World.frozen?, HRV]
    have q6 : w5.cell? ⟨w.heap.size, 6, none⟩ = some (.slice none 0 0) := (Lib.cell_of_heap HRV 6).trans rfl
    have r6 : w5.frozen? ⟨w.heap.size, 6, none⟩ = false := by simp [World.frozen?, HRV]
    have lt5 : w.heap.size < w5.heap.size := World.block_lt_of_cell? w5 _ q0
    have hcW := HR.out.2.later hc5 (fun x hx => by simp only [List.mem_singleton] at hx; omega)
    clear hp5 hc5
    go_wp2_with fail
    have hst : Chg [w.heap.size] w5 (((((((w5.setCell ⟨w.heap.size, 0, none⟩ (.bool true)).setCell ⟨w.heap.size, 1, none⟩ (.int .i64 (d : Nat))).setCell ⟨w.heap.size, 2, none⟩ (.bool lk.isSome)).setCell ⟨w.heap.size, 3, none⟩ (.string (lk.getD ⟨#[]⟩))).setCell ⟨w.heap.size, 4, none⟩ (.int .i64 (N : Nat))).setCell ⟨w.heap.size, 5, none⟩ (.bool false)).setCell ⟨w.heap.size, 6, none⟩ (.slice none 0 0)) := ((((((((Chg.refl _ _).setCell (.inl (by simp)) _).setCell (.inl (by simp)) _).setCell (.inl (by simp)) _).setCell (.inl (by simp)) _).setCell (.inl (by simp)) _).setCell (.inl (by simp)) _).setCell (.inl (by simp)) _)
    have hq := setCell_heap (j := 6) (setCell_heap (j := 5) (setCell_heap (j := 4) (setCell_heap (j := 3) (setCell_heap (j := 2) (setCell_heap (j := 1) (setCell_heap (j := 0) HRV (.bool true)) (.int .i64 (d : Nat))) (.bool lk.isSome)) (.string (lk.getD ⟨#[]⟩))) (.int .i64 (N : Nat))) (.bool false)) (.slice none 0 0)
    generalize (((((((w5.setCell ⟨w.heap.size, 0, none⟩ (.bool true)).setCell ⟨w.heap.size, 1, none⟩ (.int .i64 (d : Nat))).setCell ⟨w.heap.size, 2, none⟩ (.bool lk.isSome)).setCell ⟨w.heap.size, 3, none⟩ (.string (lk.getD ⟨#[]⟩))).setCell ⟨w.heap.size, 4, none⟩ (.int .i64 (N : Nat))).setCell ⟨w.heap.size, 5, none⟩ (.bool false)).setCell ⟨w.heap.size, 6, none⟩ (.slice none 0 0)) = wf at *
    have s0 : wf.cell? ⟨w.heap.size, 0, none⟩ = some (.bool true) := (Lib.cell_of_heap hq 0).trans rfl
    have s1 : wf.cell? ⟨w.heap.size, 1, none⟩ = some (.int .i64 (d : Nat)) := (Lib.cell_of_heap hq 1).trans rfl
    have s2 : wf.cell? ⟨w.heap.size, 2, none⟩ = some (.bool lk.isSome) := (Lib.cell_of_heap hq 2).trans rfl
    have s3 : wf.cell? ⟨w.heap.size, 3, none⟩ = some (.string (lk.getD ⟨#[]⟩)) := (Lib.cell_of_heap hq 3).trans rfl
    have s4 : wf.cell? ⟨w.heap.size, 4, none⟩ = some (.int .i64 (N : Nat)) := (Lib.cell_of_heap hq 4).trans rfl
    have s5 : wf.cell? ⟨w.heap.size, 5, none⟩ = some (.bool false) := (Lib.cell_of_heap hq 5).trans rfl
    have s6 : wf.cell? ⟨w.heap.size, 6, none⟩ = some (.slice none 0 0) := (Lib.cell_of_heap hq 6).trans rfl
    refine bodyPost_ret (v := .agg #[(.bool true), (.int .i64 (d : Nat)), (.bool lk.isSome), (.string (lk.getD ⟨#[]⟩)), (.int .i64 (N : Nat)), (.bool false), (.slice none 0 0)]) (by simp [results, Try.results16, go_sem, s0, s1, s2, s3, s4, s5, s6]; done) rfl ⟨⟨_, _, _, _, rfl⟩, ?_⟩
    exact hcW.later hst (fun x hx => by simp only [List.mem_singleton] at hx; omega)
end Go.Proofs.Qxb6603401a
