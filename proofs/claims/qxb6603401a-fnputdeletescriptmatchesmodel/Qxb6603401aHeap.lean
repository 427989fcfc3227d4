import Derived.Test.Qxb6603401aProg
import Derived.Test.Qxb6603401aKeys
import Derived.Test.Qxb6603401aLaws
import Derived.Deep.RegionHeld3
import Derived.Deep.DrawnRows
import Derived.Deep.LoopGhost
import Derived.BigQuiet
import Derived.Deep.QuietTactic
import Derived.KernelRfl
namespace Go.Proofs.Qxb6603401a
open Go Go.RowKit

theorem info82 : (Try.prog.info? 82).map (·.size) = some 2 := by kernel_rfl
theorem info30 : (Try.prog.info? 30).map (·.size) = some 1 := by kernel_rfl
theorem zero82 : (Try.prog.info? 82).map (fun i => (i.zero.map Value.cells, i.size)) = some (some #[.string ⟨#[]⟩, .slice none 0 0], 2) := by kernel_rfl
theorem zero30 : (Try.prog.info? 30).map (fun i => (i.zero.map Value.cells, i.size)) = some (some #[.pointer none], 1) := by kernel_rfl

/-- Block b is a row of 'tot' cells of type T, none frozen; its first cells are 'cs'. -/
def RowOf (T tot : Nat) (w : World) (b : Nat) (cs : List Value) : Prop := ∃ sp, w.heap[b]? = some (.cells (cs ++ sp).toArray T (0, 0)) ∧ (cs ++ sp).length = tot

theorem RowOf.chg {T tot : Nat} {w w' : World} {b : Nat} {cs : List Value} (h : RowOf T tot w b cs) {S : List Nat} (hc : Chg S w w') (hb : b ∉ S) : RowOf T tot w' b cs := by
  obtain ⟨sp, h1, h2⟩ := h
  exact ⟨sp, hc.heap h1 hb, h2⟩
theorem RowOf.lt {T tot : Nat} {w : World} {b : Nat} {cs : List Value} (h : RowOf T tot w b cs) : b < w.heap.size := by
  obtain ⟨sp, h1, _⟩ := h
  exact (Array.getElem?_eq_some_iff.1 h1).1
theorem RowOf.cell {T tot : Nat} {w : World} {b : Nat} {cs : List Value} (h : RowOf T tot w b cs) {j : Nat} {v : Value} (hv : cs[j]? = some v) : w.cell? ⟨b, j, none⟩ = some v := by
  obtain ⟨sp, h1, _⟩ := h
  have hj : j < cs.length := (List.getElem?_eq_some_iff.1 hv).1
  simp [World.cell?, h1, List.getElem?_append, hj]
  exact (List.getElem?_eq_some_iff.1 hv).2
theorem RowOf.frozen {T tot : Nat} {w : World} {b : Nat} {cs : List Value} (h : RowOf T tot w b cs) (j : Nat) : w.frozen? ⟨b, j, none⟩ = false := by
  obtain ⟨sp, h1, _⟩ := h
  simp [World.frozen?, h1]

/-! ### slices.Delete -/
theorem splice_mid {α : Type} (A B C D : List α) (h : B.length = C.length) : splice (A ++ B ++ D) A.length C = A ++ C ++ D := by
  unfold splice
  rw [← h]
  simp [List.drop_append]

/-- 'append(s[:i], s[j:]...)', then the tail cleared: on the cells. -/
theorem delete_cells {α : Type} (A X C D Z : List α) (hZ : Z.length = X.length) :
    splice (splice (A ++ X ++ C ++ D) A.length C) (A.length + C.length) Z = A ++ C ++ Z ++ D := by
  have e1 : A ++ X ++ C ++ D = A ++ (X ++ C).take C.length ++ ((X ++ C).drop C.length ++ D) := by
    rw [List.append_assoc A X C, List.append_assoc A, List.append_assoc A, ← List.append_assoc ((X ++ C).take C.length), List.take_append_drop]
  rw [e1, splice_mid A _ C _ (by simp)]
  have e2 : A.length + C.length = (A ++ C).length := by simp
  rw [e2, ← List.append_assoc (A ++ C), splice_mid (A ++ C) _ Z D (by simp [hZ])]

/-- The cells of a part of a row, as the laws ask for them. -/
theorem src_at {w : World} {b : Nat} {T : TypeId} {fr : Nat × Nat} {L C R : List Value} (hg : w.heap[b]? = some (.cells (L ++ C ++ R).toArray T fr)) {o : Nat} (ho : o = L.length) :
    ∀ j v, C[j]? = some v → w.cell? ((⟨b, o, none⟩ : Addr).add j) = some v := by
  intro j v hv
  have hj : j < C.length := (List.getElem?_eq_some_iff.1 hv).1
  have hadd : (⟨b, o, none⟩ : Addr).add j = ⟨b, o + j, none⟩ := by unfold Addr.add; split <;> simp_all
  rw [hadd, ho]
  have : (L ++ C ++ R)[L.length + j]? = some v := by
    rw [List.append_assoc, List.getElem?_append_right (by omega), Nat.add_sub_cancel_left, List.getElem?_append_left hj]; exact hv
  simpa [World.cell?, hg] using this

set_option maxHeartbeats 1000000 in
set_option maxRecDepth 100000 in
theorem delete82 (b n i : Nat) (A X C : List Value) (w : World) (hrow : RowOf 82 62 w b (A ++ X ++ C)) (hn : n ≤ 31) (hi : i < n) (hA : A.length = i * 2) (hX : X.length = 2) (hC : C.length = (n - 1 - i) * 2)
    (h1 : ∀ v ∈ C, v.oneCell' = true) :
    Calls Try.prog 50 #[.slice (some ⟨b, 0, none⟩) n 31, .int .i64 i, .int .i64 (i + 1)] w fun e w' => e = .returned (.slice (some ⟨b, 0, none⟩) (n - 1) 31) ∧ RowOf 82 62 w' b (A ++ C) ∧ Chg [b] w w' := by
  obtain ⟨sp, hg, htot⟩ := hrow
  have i1 : (0 : Int) ≤ (i : Int) := Int.natCast_nonneg _
  have i2 : (i : Int) + 1 ≤ (n : Int) := by omega
  have i3 : (n : Int) ≤ 31 := by omega
  have i4 : (i : Int) ≤ 31 := by omega
  have i5 : (0 : Int) ≤ (i : Int) + 1 := by omega
  have i6 : ((i : Int) + 1).toNat = i + 1 := by omega
  have HG : Hid _ := hg
  have hlen : A.length + X.length + C.length + sp.length = 62 := by simp at htot; omega
  have HS : Hid (∀ W : World, W.heap = w.heap → ∀ j v, C[j]? = some v → W.cell? ((⟨b, (i + 1) * 2, none⟩ : Addr).add j) = some v) := fun W hW => src_at (L := A ++ X) (R := sp) (by rw [hW]; exact hg) (by simp; omega)
  have HF : Hid (∀ Z : List Value, Z.length = 2 → splice (splice (A ++ X ++ C ++ sp) (0 + i * 2) C) ((n - 1) * 2) Z = A ++ C ++ (Z ++ sp)) := fun Z hZ => by
    have := delete_cells A X C sp Z (by omega)
    rw [hA, hC] at this
    have e : (n - 1) * 2 = i * 2 + (n - 1 - i) * 2 := by omega
    rw [e, Nat.zero_add, ← List.append_assoc]; exact this
  have HL : Hid ((splice (A ++ X ++ C ++ sp) (0 + i * 2) C).length = 62) := by
    show _ = _
    rw [length_splice _ _ _ (by simp; omega)]; exact htot
  clear hg htot
  by_cases h31 : i + 1 = 31
  · obtain rfl : i = 30 := by omega
    obtain rfl : n = 31 := by omega
    go_enter Try.func50, Try.ntmps50
    go_wp2_with fail
    go_region_held3 (fun _ => True) (trivial)
      ((refine step_append_k (by rfl) _ _ _ (by rfl) 82 2 Try.underlying76 info82 b 0 30 31 (by rfl) _ 0 _ (by rfl) (A ++ X ++ C ++ sp) 82 (by exact HG.out) C (by omega) (fun h => absurd h (by omega)) (by omega) (by simp; omega) h1 ?_; intro w1 hg1 hc1))
    clear HS
    generalize hcur : splice (A ++ X ++ C ++ sp) (0 + 30 * 2) C = cur at *
    clear hcur
    go_wp2_with (refine wpList_clear_k rfl _ _ rfl 82 2 Try.underlying76 _ zero82 rfl b 60 1 _ rfl (by omega) cur 82 hg1.out (by have := HL.out; omega) (by simp [Value.oneCell']) (by omega) ?_)
    intro w2 Z hZ hg2 hc2
    go_wp2_with fail
    go_ret
    refine ⟨rfl, ⟨Z ++ sp, ?_, ?_⟩, (hc1.trans hc2).of_drew⟩
    · rw [← HF.out Z (by omega)]; exact hg2.out
    · simp; omega
  have i7 : ¬ 31 = i + 1 := by omega
  go_enter Try.func50, Try.ntmps50
  go_wp2_with fail
  go_region_held3 (fun _ => True) (trivial)
    ((refine step_append_k (by rfl) _ _ _ (by rfl) 82 2 Try.underlying76 info82 b 0 i 31 (by rfl) _ (n - (i + 1)) _ (by rfl) (A ++ X ++ C ++ sp) 82 (by exact HG.out) C (by omega) (fun _ => ⟨_, rfl, HS.out _ rfl⟩) (by omega) (by simp; omega) h1 ?_; intro w1 hg1 hc1))
  have e1 : i + (n - (i + 1)) = n - 1 := by omega
  rw [e1]
  have j1 : (0 : Int) ≤ ((n - 1 : Nat) : Int) := Int.natCast_nonneg _
  have j2 : ((n - 1 : Nat) : Int) ≤ (n : Int) := by omega
  have j3 : ¬ 31 = n - 1 := by omega
  clear e1 HS
  generalize hcur : splice (A ++ X ++ C ++ sp) (0 + i * 2) C = cur at *
  clear hcur
  go_wp2_with (refine wpList_clear_k rfl _ _ rfl 82 2 Try.underlying76 _ zero82 rfl b ((n - 1) * 2) (n - (n - 1)) _ rfl (by omega) cur 82 hg1.out (by have := HL.out; omega) (by simp [Value.oneCell']) (by omega) ?_)
  intro w2 Z hZ hg2 hc2
  go_wp2_with fail
  go_ret
  refine ⟨rfl, ⟨Z ++ sp, ?_, ?_⟩, (hc1.trans hc2).of_drew⟩
  · rw [← HF.out Z (by omega)]; exact hg2.out
  · simp; omega

set_option maxHeartbeats 1000000 in
set_option maxRecDepth 100000 in
theorem delete30 (b n i : Nat) (A X C : List Value) (w : World) (hrow : RowOf 30 32 w b (A ++ X ++ C)) (hn : n ≤ 32) (hi : i < n) (hA : A.length = i * 1) (hX : X.length = 1) (hC : C.length = (n - 1 - i) * 1)
    (h1 : ∀ v ∈ C, v.oneCell' = true) :
    Calls Try.prog 67 #[.slice (some ⟨b, 0, none⟩) n 32, .int .i64 i, .int .i64 (i + 1)] w fun e w' => e = .returned (.slice (some ⟨b, 0, none⟩) (n - 1) 32) ∧ RowOf 30 32 w' b (A ++ C) ∧ Chg [b] w w' := by
  obtain ⟨sp, hg, htot⟩ := hrow
  have i1 : (0 : Int) ≤ (i : Int) := Int.natCast_nonneg _
  have i2 : (i : Int) + 1 ≤ (n : Int) := by omega
  have i3 : (n : Int) ≤ 32 := by omega
  have i4 : (i : Int) ≤ 32 := by omega
  have i5 : (0 : Int) ≤ (i : Int) + 1 := by omega
  have i6 : ((i : Int) + 1).toNat = i + 1 := by omega
  have HG : Hid _ := hg
  have hlen : A.length + X.length + C.length + sp.length = 32 := by simp at htot; omega
  have HS : Hid (∀ W : World, W.heap = w.heap → ∀ j v, C[j]? = some v → W.cell? ((⟨b, i + 1, none⟩ : Addr).add j) = some v) := fun W hW => src_at (L := A ++ X) (R := sp) (by rw [hW]; exact hg) (by simp; omega)
  have HF : Hid (∀ Z : List Value, Z.length = 1 → splice (splice (A ++ X ++ C ++ sp) (0 + i * 1) C) (n - 1) Z = A ++ C ++ (Z ++ sp)) := fun Z hZ => by
    have := delete_cells A X C sp Z (by omega)
    rw [hA, hC] at this
    have e : n - 1 = i * 1 + (n - 1 - i) * 1 := by omega
    rw [e, Nat.zero_add, ← List.append_assoc]; exact this
  have HL : Hid ((splice (A ++ X ++ C ++ sp) (0 + i * 1) C).length = 32) := by
    show _ = _
    rw [length_splice _ _ _ (by simp; omega)]; exact htot
  clear hg htot
  by_cases h31 : i + 1 = 32
  · obtain rfl : i = 31 := by omega
    obtain rfl : n = 32 := by omega
    go_enter Try.func67, Try.ntmps67
    go_wp2_with fail
    go_region_held3 (fun _ => True) (trivial)
      ((refine step_append_k (by rfl) _ _ _ (by rfl) 30 1 Try.underlying77 info30 b 0 31 32 (by rfl) _ 0 _ (by rfl) (A ++ X ++ C ++ sp) 30 (by exact HG.out) C (by omega) (fun h => absurd h (by omega)) (by omega) (by simp; omega) h1 ?_; intro w1 hg1 hc1))
    clear HS
    generalize hcur : splice (A ++ X ++ C ++ sp) (0 + 31 * 1) C = cur at *
    clear hcur
    go_wp2_with (refine wpList_clear_k rfl _ _ rfl 30 1 Try.underlying77 _ zero30 rfl b 31 1 _ rfl (by omega) cur 30 hg1.out (by have := HL.out; omega) (by simp [Value.oneCell']) (by omega) ?_)
    intro w2 Z hZ hg2 hc2
    go_wp2_with fail
    go_ret
    refine ⟨rfl, ⟨Z ++ sp, ?_, ?_⟩, (hc1.trans hc2).of_drew⟩
    · rw [← HF.out Z (by omega)]; exact hg2.out
    · simp; omega
  have i7 : ¬ 32 = i + 1 := by omega
  go_enter Try.func67, Try.ntmps67
  go_wp2_with fail
  go_region_held3 (fun _ => True) (trivial)
    ((refine step_append_k (by rfl) _ _ _ (by rfl) 30 1 Try.underlying77 info30 b 0 i 32 (by rfl) _ (n - (i + 1)) _ (by rfl) (A ++ X ++ C ++ sp) 30 (by exact HG.out) C (by omega) (fun _ => ⟨_, rfl, HS.out _ rfl⟩) (by omega) (by simp; omega) h1 ?_; intro w1 hg1 hc1))
  have e1 : i + (n - (i + 1)) = n - 1 := by omega
  rw [e1]
  have j1 : (0 : Int) ≤ ((n - 1 : Nat) : Int) := Int.natCast_nonneg _
  have j2 : ((n - 1 : Nat) : Int) ≤ (n : Int) := by omega
  have j3 : ¬ 32 = n - 1 := by omega
  clear e1 HS
  generalize hcur : splice (A ++ X ++ C ++ sp) (0 + i * 1) C = cur at *
  clear hcur
  go_wp2_with (refine wpList_clear_k rfl _ _ rfl 30 1 Try.underlying77 _ zero30 rfl b (n - 1) (n - (n - 1)) _ rfl (by omega) cur 30 hg1.out (by have := HL.out; omega) (by simp [Value.oneCell']) (by omega) ?_)
  intro w2 Z hZ hg2 hc2
  go_wp2_with fail
  go_ret
  refine ⟨rfl, ⟨Z ++ sp, ?_, ?_⟩, (hc1.trans hc2).of_drew⟩
  · rw [← HF.out Z (by omega)]; exact hg2.out
  · simp; omega

end Go.Proofs.Qxb6603401a
