import Derived.Test.Qxb6603401aGet
namespace Go.Proofs.Qxb6603401a
open Go Go.RowKit

/-! ### The shim's accessors -/
theorem acc18 (tb : Nat) (v : Value) (w : World) (h : w.cell? ⟨tb, 0, none⟩ = some v) : Calls Try.prog 18 #[.pointer (some ⟨tb, 0, none⟩)] w fun e w' => e = .returned v ∧ w = w' := by
  go_enter Try.func18, Try.ntmps18
  go_wp2
  go_ret
  exact ⟨rfl, rfl⟩
theorem acc19 (tb : Nat) (v : Value) (w : World) (h : w.cell? ⟨tb, 2, none⟩ = some v) : Calls Try.prog 19 #[.pointer (some ⟨tb, 0, none⟩)] w fun e w' => e = .returned v ∧ w = w' := by
  go_enter Try.func19, Try.ntmps19
  go_wp2
  go_ret
  exact ⟨rfl, rfl⟩
theorem acc40 (b : Nat) (n : Nat) (w : World) (h : w.cell? ⟨b + 1, 1, none⟩ = some (.slice (some ⟨b, 0, none⟩) n 31)) : Calls Try.prog 40 #[ptr b] w fun e w' => e = .returned (.int .i64 n) ∧ w = w' := by
  unfold ptr
  go_enter Try.func40, Try.ntmps40
  go_wp2
  go_ret
  exact ⟨rfl, rfl⟩
theorem acc36 (b : Nat) (a : Option Addr) (n c : Nat) (w : World) (h : w.cell? ⟨b + 1, 2, none⟩ = some (.slice a n c)) : Calls Try.prog 36 #[ptr b] w fun e w' => e = .returned (.bool a.isNone) ∧ w = w' := by
  have hnn := nil77
  unfold ptr
  go_enter Try.func36, Try.ntmps36
  go_wp2
  go_ret
  exact ⟨rfl, rfl⟩
theorem acc37 (b : Nat) (a : Option Addr) (n c : Nat) (w : World) (h : w.cell? ⟨b + 1, 2, none⟩ = some (.slice a n c)) : Calls Try.prog 37 #[ptr b] w fun e w' => e = .returned (.int .i64 n) ∧ w = w' := by
  unfold ptr
  go_enter Try.func37, Try.ntmps37
  go_wp2
  go_ret
  exact ⟨rfl, rfl⟩
theorem acc38 (b i n : Nat) (v : Value) (w : World) (h : w.cell? ⟨b + 1, 2, none⟩ = some (.slice (some ⟨b + 2, 0, none⟩) n 32)) (hi : i < n) (hv : w.cell? ⟨b + 2, i, none⟩ = some v) : Calls Try.prog 38 #[ptr b, .int .i64 i] w fun e w' => e = .returned v ∧ w = w' := by
  have z1 : (0 : Int) ≤ (i : Int) := Int.natCast_nonneg _
  have z2 : (i : Int) < (n : Int) := by omega
  unfold ptr
  go_enter Try.func38, Try.ntmps38
  go_wp2
  go_ret
  exact ⟨rfl, rfl⟩
theorem acc61 (b i n : Nat) (k : ByteArray) (w : World) (h : w.cell? ⟨b + 1, 1, none⟩ = some (.slice (some ⟨b, 0, none⟩) n 31)) (hi : i < n) (hv : w.cell? ⟨b, i * 2, none⟩ = some (.string k)) : Calls Try.prog 61 #[ptr b, .int .i64 i] w fun e w' => e = .returned (.string k) ∧ w = w' := by
  have z1 : (0 : Int) ≤ (i : Int) := Int.natCast_nonneg _
  have z2 : (i : Int) < (n : Int) := by omega
  unfold ptr
  go_enter Try.func61, Try.ntmps61
  go_wp2
  go_ret
  exact ⟨rfl, rfl⟩
theorem acc62 (b i n : Nat) (va : Option Addr) (vn vc : Nat) (w : World) (h : w.cell? ⟨b + 1, 1, none⟩ = some (.slice (some ⟨b, 0, none⟩) n 31)) (hi : i < n) (hv : w.cell? ⟨b, i * 2 + 1, none⟩ = some (.slice va vn vc)) : Calls Try.prog 62 #[ptr b, .int .i64 i] w fun e w' => e = .returned (.slice va vn vc) ∧ w = w' := by
  have z1 : (0 : Int) ≤ (i : Int) := Int.natCast_nonneg _
  have z2 : (i : Int) < (n : Int) := by omega
  unfold ptr
  go_enter Try.func62, Try.ntmps62
  go_wp2
  go_ret
  exact ⟨rfl, rfl⟩
end Go.Proofs.Qxb6603401a
