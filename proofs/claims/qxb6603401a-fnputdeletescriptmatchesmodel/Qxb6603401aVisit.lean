import Derived.Test.Qxb6603401aAcc
import Derived.Test.Qxb6603401aWand
namespace Go.Proofs.Qxb6603401a
open Go Go.RowKit

/-- The walk's state in memory, nothing found amiss: the leaves' depth (or -1), the last key, the count. -/
def wsObj (ld : Int) (st : Option ByteArray) (cnt : Nat) (col : Bool) (out : Value) : Obj :=
  .cells #[.bool true, .int .i64 ld, .bool st.isSome, .string (st.getD ⟨#[]⟩), .int .i64 (cnt : Nat), .bool col, out] 39 (0, 0)

set_option maxHeartbeats 2000000 in
theorem visit_no (p b i n : Nat) (k : ByteArray) (w : World) (ld : Int) (st : Option ByteArray) (cnt : Nat) (out : Value) (hp : w.heap[p]? = some (wsObj ld st cnt false out)) (hs : ∀ l, st = some l → kc l k < 0) (hc : cnt < 4611686018427387904)
    (h : w.cell? ⟨b + 1, 1, none⟩ = some (.slice (some ⟨b, 0, none⟩) n 31)) (hi : i < n) (hv : w.cell? ⟨b, i * 2, none⟩ = some (.string k)) :
    Calls Try.prog 63 #[ptr b, .int .i64 i, .pointer (some ⟨p, 0, none⟩)] w fun e w' => e = .returned (.tuple #[]) ∧ w'.heap[p]? = some (wsObj ld (some k) (cnt + 1) false out) ∧ Chg [p] w w' := by
  have HA := acc61 b i n k w h hi hv
  have c0 : w.cell? ⟨p, 0, none⟩ = some (.bool true) := (Lib.cell_of_heap hp 0).trans rfl
  have c2 : w.cell? ⟨p, 2, none⟩ = some (.bool st.isSome) := (Lib.cell_of_heap hp 2).trans rfl
  have c3 : w.cell? ⟨p, 3, none⟩ = some (.string (st.getD ⟨#[]⟩)) := (Lib.cell_of_heap hp 3).trans rfl
  have c4 : w.cell? ⟨p, 4, none⟩ = some (.int .i64 (cnt : Nat)) := (Lib.cell_of_heap hp 4).trans rfl
  have c5 : w.cell? ⟨p, 5, none⟩ = some (.bool false) := (Lib.cell_of_heap hp 5).trans rfl
  have f2 : w.frozen? ⟨p, 2, none⟩ = false := by simp [World.frozen?, hp, wsObj]
  have f3 : w.frozen? ⟨p, 3, none⟩ = false := by simp [World.frozen?, hp, wsObj]
  have f4 : w.frozen? ⟨p, 4, none⟩ = false := by simp [World.frozen?, hp, wsObj]
  have hpl : p < w.heap.size := World.block_lt_of_cell? w _ c0
  have zc : (cnt : Int) < 4611686018427387904 := by omega
  have zc0 : (0 : Int) ≤ (cnt : Int) := Int.natCast_nonneg _
  have HP : Hid (w.heap[p]? = some (wsObj ld st cnt false out)) := hp
  clear hp h hv hi
  have hfin : Hid (((((w.setCell ⟨p, 3, none⟩ (.string k)).setCell ⟨p, 2, none⟩ (.bool true)).setCell ⟨p, 4, none⟩ (.int .i64 ((cnt : Int) + 1))).heap[p]? = some (wsObj ld (some k) (cnt + 1) false out)) ∧ Chg [p] w (((w.setCell ⟨p, 3, none⟩ (.string k)).setCell ⟨p, 2, none⟩ (.bool true)).setCell ⟨p, 4, none⟩ (.int .i64 ((cnt : Int) + 1)))) := by
    refine ⟨?_, (((Chg.refl _ _).setCell (.inl (by simp)) _).setCell (.inl (by simp)) _).setCell (.inl (by simp)) _⟩
    rw [setCell_heap (setCell_heap (setCell_heap HP.out _) _) _]
    rfl
  cases st with
  | none =>
    simp only [Option.isSome, Option.getD] at c2 c3
    clear hs
    go_enter Try.func63, Try.ntmps63
    go_wp2_with fail
    refine HA.mono ?_
    rintro e w' ⟨rfl, rfl⟩
    go_wp2_with fail
    refine bodyPost_end (v := .tuple #[]) (by simp [results, Try.results63, go_sem]) rfl ⟨rfl, hfin.out⟩
  | some l =>
    simp only [Option.isSome, Option.getD] at c2 c3
    have hlk : Op.bytesLess l.toList k.toList = true := by rw [less_kc]; simp [hs l rfl]
    clear hs
    go_enter Try.func63, Try.ntmps63
    go_wp2_with fail
    refine HA.mono ?_
    rintro e w' ⟨rfl, rfl⟩
    go_wp2_with fail
    refine bodyPost_end (v := .tuple #[]) (by simp [results, Try.results63, go_sem]) rfl ⟨rfl, hfin.out⟩
end Go.Proofs.Qxb6603401a
