import Derived.Test.Qxb6603401aHeap
import Derived.Lib.Overlaps
namespace Go.Proofs.Qxb6603401a
open Go Go.RowKit

theorem find68 : Extern.find Try.f68 = some (Extern.SlicesOverlaps.overlaps #[76, 76] #[4]) := by kernel_rfl
theorem find70 : Extern.find Try.f70 = some (Extern.SlicesOverlaps.overlaps #[77, 77] #[4]) := by kernel_rfl

theorem run_overlaps68 (w : World) (a b : Addr) (la ca lb cb : Nat) (xa xb : Array Value) (ta tb : TypeId)
    (hne : a.block ≠ b.block) (ha : w.heap[a.block]? = some (.cells xa ta (0, 0))) (hb : w.heap[b.block]? = some (.cells xb tb (0, 0))) (hxb : xb.size ≠ 0) :
    (callFunc 68 #[.slice (some a) la ca, .slice (some b) lb cb]).run Try.prog w = .ok (.value (.bool false)) w := by
  rw [run_callFunc_extern Try.func68 (by kernel_rfl) (by kernel_rfl) (by kernel_rfl) find68]
  obtain ⟨i, hi, hs⟩ := Option.map_eq_some_iff.1 info82
  rw [Lib.run_overlaps_apart w 76 4 82 Try.underlying76 2 (fun w => by simp [sizeOf, typeInfo, hi, hs]) a b la ca lb cb hne ta tb xa.size xb.size (by simp [World.shape?, ha]) (by simp [World.shape?, hb]) hxb (by simp [World.frozen?, ha]) (by simp [World.frozen?, ha])]
  rfl
theorem run_overlaps70 (w : World) (a b : Addr) (la ca lb cb : Nat) (xa xb : Array Value) (ta tb : TypeId)
    (hne : a.block ≠ b.block) (ha : w.heap[a.block]? = some (.cells xa ta (0, 0))) (hb : w.heap[b.block]? = some (.cells xb tb (0, 0))) (hxb : xb.size ≠ 0) :
    (callFunc 70 #[.slice (some a) la ca, .slice (some b) lb cb]).run Try.prog w = .ok (.value (.bool false)) w := by
  rw [run_callFunc_extern Try.func70 (by kernel_rfl) (by kernel_rfl) (by kernel_rfl) find70]
  obtain ⟨i, hi, hs⟩ := Option.map_eq_some_iff.1 info30
  rw [Lib.run_overlaps_apart w 77 4 30 Try.underlying77 1 (fun w => by simp [sizeOf, typeInfo, hi, hs]) a b la ca lb cb hne ta tb xa.size xb.size (by simp [World.shape?, ha]) (by simp [World.shape?, hb]) hxb (by simp [World.frozen?, ha]) (by simp [World.frozen?, ha])]
  rfl

/-- 'copy(s[i+1:], s[i:]); copy(s[i:], v)': on the cells. -/
theorem insert_cells {α : Type} (A X C D : List α) (hD : X.length ≤ D.length) :
    splice (splice (A ++ C ++ D) (A.length + X.length) C) A.length X = A ++ X ++ C ++ D.drop X.length := by
  have e1 : A ++ C ++ D = (A ++ (C ++ D).take X.length) ++ ((C ++ D).drop X.length).take C.length ++ ((C ++ D).drop X.length).drop C.length := by
    rw [List.append_assoc (A ++ (C ++ D).take X.length), List.take_append_drop, List.append_assoc, List.append_assoc, List.take_append_drop]
  have l1 : (A ++ (C ++ D).take X.length).length = A.length + X.length := by simp; omega
  have e2 : ((C ++ D).drop X.length).drop C.length = D.drop X.length := by
    rw [List.drop_drop, Nat.add_comm, List.drop_length_add_append]
  rw [e1, ← l1, splice_mid _ _ C _ (by simp; omega), e2]
  have e3 : A ++ (C ++ D).take X.length ++ C ++ D.drop X.length = A ++ (C ++ D).take X.length ++ (C ++ D.drop X.length) := by simp
  rw [e3, splice_mid A _ X _ (by simp; omega)]
  simp

set_option maxHeartbeats 1000000 in
set_option maxRecDepth 100000 in
theorem insert82 (b vb n i : Nat) (A X C : List Value) (w : World) (hrow : RowOf 82 62 w b (A ++ C)) (hn : n + 1 ≤ 31) (hi : i ≤ n) (hA : A.length = i * 2) (hX : X.length = 2) (hC : C.length = (n - i) * 2)
    (hv : w.heap[vb]? = some (.cells X.toArray 82 (0, 0))) (hvb : vb ≠ b) (h1 : ∀ v ∈ C, v.oneCell' = true) (h2 : ∀ v ∈ X, v.oneCell' = true) :
    Calls Try.prog 58 #[.slice (some ⟨b, 0, none⟩) n 31, .int .i64 i, .slice (some ⟨vb, 0, none⟩) 1 1] w fun e w' => e = .returned (.slice (some ⟨b, 0, none⟩) (n + 1) 31) ∧ RowOf 82 62 w' b (A ++ X ++ C) ∧ Chg [b] w w' := by
  obtain ⟨sp, hg, htot⟩ := hrow
  have i1 : (0 : Int) ≤ (i : Int) := Int.natCast_nonneg _
  have i3 : (n : Int) + 1 ≤ 31 := by omega
  have HG : Hid _ := hg
  have HV : Hid _ := hv
  have hlen : A.length + C.length + sp.length = 62 := by simp at htot; omega
  have HX : Hid (∀ W : World, W.heap[vb]? = w.heap[vb]? → ∀ j v, X[j]? = some v → W.cell? ((⟨vb, 0, none⟩ : Addr).add j) = some v) := fun W hW => src_at (L := []) (R := []) (by rw [hW]; simpa using hv) rfl
  by_cases hin : i = n
  · subst hin
    obtain rfl : C = [] := List.eq_nil_of_length_eq_zero (by omega)
    have HF : Hid (splice (A ++ sp) (i * 2) X = A ++ X ++ [] ++ sp.drop 2) := by
      show _ = _
      have e : A ++ sp = A ++ sp.take 2 ++ sp.drop 2 := by rw [List.append_assoc, List.take_append_drop]
      rw [e, ← hA, splice_mid A _ X _ (by simp at hlen ⊢; omega)]
      simp
    go_enter Try.func58, Try.ntmps58
    go_wp2_with (at_builtin; refine wpList_append_k rfl _ _ _ rfl 82 2 Try.underlying76 info82 b 0 i 31 rfl _ 1 _ rfl (A ++ [] ++ sp) 82 HG.out X (by omega) (fun _ => ⟨_, rfl, HX.out _ rfl⟩) (by omega) (by simp at hlen ⊢; omega) h2 ?_)
    intro w1 hg1 hc1
    go_wp2_with fail
    go_ret
    refine ⟨rfl, ⟨sp.drop 2, ?_, ?_⟩, hc1⟩
    · rw [← HF.out]; simpa using hg1.out
    · simp at hlen ⊢; omega
  · have hlt : i < n := by omega
    have i2 : (i : Int) + 1 ≤ (n : Int) := by omega
    have i4 : (i : Int) ≤ (n : Int) := by omega
    have i5 : ((i : Int) == (n : Int)) = false := by rw [beq_eq_false_iff_ne]; omega
    have i6 : ((i : Int) + 1).toNat = i + 1 := by omega
    have i7 : ¬ 31 = i + 1 := by omega
    have i8 : ¬ 31 = i := by omega
    have i9 : (0 : Int) ≤ (i : Int) + 1 := by omega
    have i10 : (i : Int) + 1 ≤ (n : Int) + 1 := by omega
    have i11 : (i : Int) ≤ (n : Int) + 1 := by omega
    have iw : IntKind.i64.wrap ((i : Int) + 1) = (i : Int) + 1 := by rw [IntKind.wrap_i64]; omega
    have hov := fun lb cb => run_overlaps68 w ⟨vb, 0, none⟩ ⟨b, (i + 1) * 2, none⟩ 1 1 lb cb _ _ _ _ hvb HV.out HG.out (by rw [List.size_toArray]; omega)
    have HF : Hid (splice (splice (A ++ C ++ sp) ((i + 1) * 2) C) (i * 2) X = A ++ X ++ C ++ sp.drop 2) := by
      show _ = _
      have := insert_cells A X C sp (by omega)
      rw [hX, hA] at this
      have e : (i + 1) * 2 = i * 2 + 2 := by omega
      rw [e]; simpa using this
    have HS : Hid (∀ W : World, W.heap = w.heap → ∀ j v, C[j]? = some v → W.cell? ((⟨b, i * 2, none⟩ : Addr).add j) = some v) := fun W hW => src_at (L := A) (R := sp) (by rw [hW]; exact hg) (by omega)
    have HL : Hid ((splice (A ++ C ++ sp) ((i + 1) * 2) C).length = 62) := by
      show _ = _
      rw [length_splice _ _ _ (by simp; omega)]; exact htot
    clear hg htot hv hin
    go_enter Try.func58, Try.ntmps58
    go_wp2_with fail
    clear hov
    go_region_held3 (fun _ => True) (trivial)
      ((refine step_copy_k (by rfl) _ _ _ _ (by rfl) 82 2 Try.underlying76 info82 _ _ (n - i) _ (n + 1 - i) _ (n - i) (by rfl) (by rfl) (by simp only [Nat.min_def]; split <;> omega) b ((i + 1) * 2) (A ++ C ++ sp) 82 (by exact HG.out) (by rfl) C (by omega) _ (by rfl) (HS.out _ rfl) (by simp; omega) h1 ?_; intro w1 hg1 hc1))
    clear HS
    generalize hcur : splice (A ++ C ++ sp) ((i + 1) * 2) C = cur at *
    clear hcur
    have hx1 := HX.out w1 (hc1.block vb (Array.getElem?_eq_some_iff.1 HV.out).1 (by simpa using hvb))
    have HX1 : Hid _ := hx1
    clear hx1
    go_wp2_with (refine wpList_copy_k rfl _ _ _ _ rfl 82 2 Try.underlying76 info82 _ _ (n + 1 - i) _ 1 _ 1 rfl rfl (by simp only [Nat.min_def]; split <;> omega) b (i * 2) cur 82 hg1.out rfl X (by omega) _ rfl HX1.out (by have := HL.out; omega) h2 ?_)
    intro w2 hg2 hc2
    go_wp2_with fail
    go_ret
    refine ⟨rfl, ⟨sp.drop 2, ?_, ?_⟩, (hc1.trans hc2).of_drew⟩
    · rw [← HF.out]; exact hg2.out
    · simp; omega

set_option maxHeartbeats 1000000 in
set_option maxRecDepth 100000 in
theorem insert30 (b vb n i : Nat) (A X C : List Value) (w : World) (hrow : RowOf 30 32 w b (A ++ C)) (hn : n + 1 ≤ 32) (hi : i ≤ n) (hA : A.length = i * 1) (hX : X.length = 1) (hC : C.length = (n - i) * 1)
    (hv : w.heap[vb]? = some (.cells X.toArray 30 (0, 0))) (hvb : vb ≠ b) (h1 : ∀ v ∈ C, v.oneCell' = true) (h2 : ∀ v ∈ X, v.oneCell' = true) :
    Calls Try.prog 59 #[.slice (some ⟨b, 0, none⟩) n 32, .int .i64 i, .slice (some ⟨vb, 0, none⟩) 1 1] w fun e w' => e = .returned (.slice (some ⟨b, 0, none⟩) (n + 1) 32) ∧ RowOf 30 32 w' b (A ++ X ++ C) ∧ Chg [b] w w' := by
  obtain ⟨sp, hg, htot⟩ := hrow
  have i1 : (0 : Int) ≤ (i : Int) := Int.natCast_nonneg _
  have i3 : (n : Int) + 1 ≤ 32 := by omega
  have HG : Hid _ := hg
  have HV : Hid _ := hv
  have hlen : A.length + C.length + sp.length = 32 := by simp at htot; omega
  have HX : Hid (∀ W : World, W.heap[vb]? = w.heap[vb]? → ∀ j v, X[j]? = some v → W.cell? ((⟨vb, 0, none⟩ : Addr).add j) = some v) := fun W hW => src_at (L := []) (R := []) (by rw [hW]; simpa using hv) rfl
  by_cases hin : i = n
  · subst hin
    obtain rfl : C = [] := List.eq_nil_of_length_eq_zero (by omega)
    have HF : Hid (splice (A ++ sp) (i * 1) X = A ++ X ++ [] ++ sp.drop 1) := by
      show _ = _
      have e : A ++ sp = A ++ sp.take 1 ++ sp.drop 1 := by rw [List.append_assoc, List.take_append_drop]
      rw [e, ← hA, splice_mid A _ X _ (by simp at hlen ⊢; omega)]
      simp
    go_enter Try.func59, Try.ntmps59
    go_wp2_with (at_builtin; refine wpList_append_k rfl _ _ _ rfl 30 1 Try.underlying77 info30 b 0 i 32 rfl _ 1 _ rfl (A ++ [] ++ sp) 30 HG.out X (by omega) (fun _ => ⟨_, rfl, HX.out _ rfl⟩) (by omega) (by simp at hlen ⊢; omega) h2 ?_)
    intro w1 hg1 hc1
    go_wp2_with fail
    go_ret
    refine ⟨rfl, ⟨sp.drop 1, ?_, ?_⟩, hc1⟩
    · rw [← HF.out]; simpa using hg1.out
    · simp at hlen ⊢; omega
  · have hlt : i < n := by omega
    have i2 : (i : Int) + 1 ≤ (n : Int) := by omega
    have i4 : (i : Int) ≤ (n : Int) := by omega
    have i5 : ((i : Int) == (n : Int)) = false := by rw [beq_eq_false_iff_ne]; omega
    have i6 : ((i : Int) + 1).toNat = i + 1 := by omega
    have i7 : ¬ 32 = i + 1 := by omega
    have i8 : ¬ 32 = i := by omega
    have i9 : (0 : Int) ≤ (i : Int) + 1 := by omega
    have i10 : (i : Int) + 1 ≤ (n : Int) + 1 := by omega
    have i11 : (i : Int) ≤ (n : Int) + 1 := by omega
    have iw : IntKind.i64.wrap ((i : Int) + 1) = (i : Int) + 1 := by rw [IntKind.wrap_i64]; omega
    have hov := fun lb cb => run_overlaps70 w ⟨vb, 0, none⟩ ⟨b, i + 1, none⟩ 1 1 lb cb _ _ _ _ hvb HV.out HG.out (by rw [List.size_toArray]; omega)
    have HF : Hid (splice (splice (A ++ C ++ sp) (i + 1) C) (i) X = A ++ X ++ C ++ sp.drop 1) := by
      show _ = _
      have := insert_cells A X C sp (by omega)
      rw [hX, hA] at this
      have e : i + 1 = i * 1 + 1 := by omega
      rw [e]; simpa using this
    have HS : Hid (∀ W : World, W.heap = w.heap → ∀ j v, C[j]? = some v → W.cell? ((⟨b, i, none⟩ : Addr).add j) = some v) := fun W hW => src_at (L := A) (R := sp) (by rw [hW]; exact hg) (by omega)
    have HL : Hid ((splice (A ++ C ++ sp) (i + 1) C).length = 32) := by
      show _ = _
      rw [length_splice _ _ _ (by simp; omega)]; exact htot
    clear hg htot hv hin
    go_enter Try.func59, Try.ntmps59
    go_wp2_with fail
    clear hov
    go_region_held3 (fun _ => True) (trivial)
      ((refine step_copy_k (by rfl) _ _ _ _ (by rfl) 30 1 Try.underlying77 info30 _ _ (n - i) _ (n + 1 - i) _ (n - i) (by rfl) (by rfl) (by simp only [Nat.min_def]; split <;> omega) b (i + 1) (A ++ C ++ sp) 30 (by exact HG.out) (by rfl) C (by omega) _ (by rfl) (HS.out _ rfl) (by simp; omega) h1 ?_; intro w1 hg1 hc1))
    clear HS
    generalize hcur : splice (A ++ C ++ sp) (i + 1) C = cur at *
    clear hcur
    have hx1 := HX.out w1 (hc1.block vb (Array.getElem?_eq_some_iff.1 HV.out).1 (by simpa using hvb))
    have HX1 : Hid _ := hx1
    clear hx1
    go_wp2_with (refine wpList_copy_k rfl _ _ _ _ rfl 30 1 Try.underlying77 info30 _ _ (n + 1 - i) _ 1 _ 1 rfl rfl (by simp only [Nat.min_def]; split <;> omega) b (i) cur 30 hg1.out rfl X (by omega) _ rfl HX1.out (by have := HL.out; omega) h2 ?_)
    intro w2 hg2 hc2
    go_wp2_with fail
    go_ret
    refine ⟨rfl, ⟨sp.drop 1, ?_, ?_⟩, (hc1.trans hc2).of_drew⟩
    · rw [← HF.out]; exact hg2.out
    · simp; omega

end Go.Proofs.Qxb6603401a
