import Derived.Lib.Bytealg
import Derived.Laws.Strings
import GoSem.Op.String
namespace Go.Proofs.Qxb6603401a
open Go

/-! ### The order of keys: no Go program in sight -/

/-- What strings.Compare says of two keys. -/
def kc (a b : ByteArray) : Int := Lib.compareBytes a.data.toList b.data.toList

theorem cmp_refl : ∀ l : List UInt8, Lib.compareBytes l l = 0
  | [] => rfl
  | x :: xs => by simp [Lib.compareBytes, UInt8.lt_irrefl, cmp_refl xs]

theorem cmp_vals : ∀ a b : List UInt8, Lib.compareBytes a b = -1 ∨ Lib.compareBytes a b = 0 ∨ Lib.compareBytes a b = 1
  | [], [] => by simp [Lib.compareBytes]
  | [], _ :: _ => by simp [Lib.compareBytes]
  | _ :: _, [] => by simp [Lib.compareBytes]
  | x :: xs, y :: ys => by
    simp only [Lib.compareBytes]
    split
    · simp
    · split
      · simp
      · exact cmp_vals xs ys

theorem u8_eq {x y : UInt8} (h1 : ¬ x < y) (h2 : ¬ y < x) : x = y := by
  rw [UInt8.lt_iff_toNat_lt] at h1 h2
  exact UInt8.toNat_inj.1 (by omega)

theorem cmp_zero : ∀ a b : List UInt8, Lib.compareBytes a b = 0 → a = b
  | [], [], _ => rfl
  | [], _ :: _, h => by simp [Lib.compareBytes] at h
  | _ :: _, [], h => by simp [Lib.compareBytes] at h
  | x :: xs, y :: ys, h => by
    simp only [Lib.compareBytes] at h
    by_cases h1 : x < y
    · simp [h1] at h
    · by_cases h2 : y < x
      · simp [h1, h2] at h
      · simp [h1, h2] at h
        rw [u8_eq h1 h2, cmp_zero xs ys h]

theorem cmp_swap : ∀ a b : List UInt8, Lib.compareBytes b a = - Lib.compareBytes a b
  | [], [] => rfl
  | [], _ :: _ => rfl
  | _ :: _, [] => rfl
  | x :: xs, y :: ys => by
    simp only [Lib.compareBytes]
    by_cases h1 : x < y
    · have h2 : ¬ y < x := by rw [UInt8.lt_iff_toNat_lt] at *; omega
      simp [h1, h2]
    · by_cases h2 : y < x
      · simp [h1, h2]
      · simp [h1, h2, cmp_swap xs ys]

theorem cmp_trans : ∀ a b c : List UInt8, Lib.compareBytes a b < 0 → Lib.compareBytes b c < 0 → Lib.compareBytes a c < 0
  | [], [], c, h, _ => by simp [Lib.compareBytes] at h
  | [], _ :: _, [], _, h => by simp [Lib.compareBytes] at h
  | [], _ :: _, _ :: _, _, _ => by simp [Lib.compareBytes]
  | _ :: _, [], c, h, _ => by simp [Lib.compareBytes] at h
  | _ :: _, _ :: _, [], _, h => by simp [Lib.compareBytes] at h
  | x :: xs, y :: ys, z :: zs, h1, h2 => by
    simp only [Lib.compareBytes] at *
    by_cases a1 : x < y
    · by_cases b1 : y < z
      · have : x < z := by rw [UInt8.lt_iff_toNat_lt] at *; omega
        simp [this]
      · by_cases b2 : z < y
        · simp [b1, b2] at h2
        · obtain rfl := u8_eq b1 b2
          simp [a1]
    · by_cases a2 : y < x
      · simp [a1, a2] at h1
      · obtain rfl := u8_eq a1 a2
        by_cases b1 : x < z
        · simp [b1]
        · by_cases b2 : z < x
          · simp [b1, b2] at h2
          · simp [a1] at h1
            simp [b1, b2] at h2 ⊢
            exact cmp_trans xs ys zs h1 h2

theorem bytesLess_cmp : ∀ a b : List UInt8, Op.bytesLess a b = decide (Lib.compareBytes a b < 0)
  | [], [] => rfl
  | [], _ :: _ => rfl
  | _ :: _, [] => by simp [Op.bytesLess, Lib.compareBytes]
  | x :: xs, y :: ys => by
    simp only [Op.bytesLess, Lib.compareBytes]
    by_cases h1 : x < y
    · simp [h1]
    · by_cases h2 : y < x
      · have hne : ¬ x = y := by rintro rfl; exact h1 h2
        simp [h1, h2, hne]
      · obtain rfl := u8_eq h1 h2
        simp [h1, bytesLess_cmp xs ys]

theorem kc_refl (a : ByteArray) : kc a a = 0 := cmp_refl _
theorem kc_zero {a b : ByteArray} (h : kc a b = 0) : a = b := by
  have := cmp_zero _ _ h
  obtain ⟨⟨la⟩⟩ := a
  obtain ⟨⟨lb⟩⟩ := b
  simpa using this
theorem kc_zero_iff {a b : ByteArray} : kc a b = 0 ↔ a = b := ⟨kc_zero, fun h => h ▸ kc_refl a⟩
theorem kc_swap (a b : ByteArray) : kc b a = - kc a b := cmp_swap _ _
theorem kc_trans {a b c : ByteArray} (h1 : kc a b < 0) (h2 : kc b c < 0) : kc a c < 0 := cmp_trans _ _ _ h1 h2
theorem kc_vals (a b : ByteArray) : kc a b = -1 ∨ kc a b = 0 ∨ kc a b = 1 := cmp_vals _ _
theorem kc_irrefl (a : ByteArray) : ¬ kc a a < 0 := by rw [kc_refl]; omega

/-- '<' on strings, as the walk writes it. -/
theorem less_kc (a b : ByteArray) : Op.bytesLess a.toList b.toList = decide (kc a b < 0) := by
  rw [ByteArray.toList_eq, ByteArray.toList_eq]; exact bytesLess_cmp _ _
theorem eq_kc (a b : ByteArray) : (a.toList == b.toList) = decide (a = b) := by
  rw [ByteArray.toList_eq, ByteArray.toList_eq, Bool.eq_iff_iff]
  simp only [beq_iff_eq, decide_eq_true_eq]
  obtain ⟨⟨la⟩⟩ := a
  obtain ⟨⟨lb⟩⟩ := b
  simp

/-! ### Entries -/
/-- One item: its key, and its value as a slice (address, length, capacity). -/
structure It where
  key : ByteArray
  va : Option Addr
  vn : Nat
  vc : Nat

def It.val (x : It) : Value := .slice x.va x.vn x.vc

/-- Strictly ascending keys. -/
def Sorted (es : List It) : Prop := es.Pairwise fun a b => kc a.key b.key < 0

/-- What Put makes of a sorted list. -/
def putL (x : It) (es : List It) : List It := (es.filter fun e => decide (kc e.key x.key < 0)) ++ x :: (es.filter fun e => decide (kc x.key e.key < 0))
/-- What Delete makes of a list. -/
def delL (k : ByteArray) (es : List It) : List It := es.filter fun e => !decide (e.key = k)

theorem filter_all {α : Type} {p : α → Bool} {l : List α} (h : ∀ x ∈ l, p x = true) : l.filter p = l := List.filter_eq_self.2 h
theorem filter_none {α : Type} {p : α → Bool} {l : List α} (h : ∀ x ∈ l, p x = false) : l.filter p = [] := List.filter_eq_nil_iff.2 (fun x hx => by rw [h x hx]; simp)

theorem putL_mid {x : It} {L C R : List It} (hL : ∀ e ∈ L, kc e.key x.key < 0) (hR : ∀ e ∈ R, kc x.key e.key < 0) : putL x (L ++ C ++ R) = L ++ putL x C ++ R := by
  have l1 : L.filter (fun e => decide (kc e.key x.key < 0)) = L := filter_all (fun e he => by simpa using hL e he)
  have l2 : L.filter (fun e => decide (kc x.key e.key < 0)) = [] := filter_none (fun e he => by have := hL e he; rw [kc_swap]; simp; omega)
  have r1 : R.filter (fun e => decide (kc e.key x.key < 0)) = [] := filter_none (fun e he => by have := hR e he; rw [kc_swap]; simp; omega)
  have r2 : R.filter (fun e => decide (kc x.key e.key < 0)) = R := filter_all (fun e he => by simpa using hR e he)
  simp [putL, List.filter_append, l1, l2, r1, r2]

theorem putL_here {x y : It} {L R : List It} (hy : y.key = x.key) (hL : ∀ e ∈ L, kc e.key x.key < 0) (hR : ∀ e ∈ R, kc x.key e.key < 0) : putL x (L ++ y :: R) = L ++ x :: R := by
  have h := putL_mid (x := x) (L := L) (C := [y]) (R := R) hL hR
  have e : putL x [y] = [x] := by simp [putL, hy, kc_refl]
  rw [e] at h
  simpa using h

theorem putL_none {x : It} {L R : List It} (hL : ∀ e ∈ L, kc e.key x.key < 0) (hR : ∀ e ∈ R, kc x.key e.key < 0) : putL x (L ++ R) = L ++ x :: R := by
  have h := putL_mid (x := x) (L := L) (C := []) (R := R) hL hR
  have e : putL x [] = [x] := by simp [putL]
  rw [e] at h
  simpa using h

theorem delL_append (k : ByteArray) (L R : List It) : delL k (L ++ R) = delL k L ++ delL k R := by simp [delL]
theorem delL_none {k : ByteArray} {L : List It} (h : ∀ e ∈ L, e.key ≠ k) : delL k L = L := filter_all (fun e he => by simpa using h e he)
theorem delL_one {k : ByteArray} {x : It} (h : x.key = k) : delL k [x] = [] := by simp [delL, h]

theorem Sorted.filter {es : List It} (h : Sorted es) (p : It → Bool) : Sorted (es.filter p) := List.Pairwise.filter p h
theorem Sorted.del {es : List It} (h : Sorted es) (k : ByteArray) : Sorted (delL k es) := h.filter _

theorem Sorted.put {es : List It} (h : Sorted es) (x : It) : Sorted (putL x es) := by
  unfold Sorted putL
  rw [List.pairwise_append, List.pairwise_cons]
  refine ⟨h.filter _, ⟨fun b hb => ?_, h.filter _⟩, fun a ha b hb => ?_⟩
  · simpa using (List.mem_filter.1 hb).2
  · have h1 : kc a.key x.key < 0 := by simpa using (List.mem_filter.1 ha).2
    rcases List.mem_cons.1 hb with rfl | hb
    · exact h1
    · exact kc_trans h1 (by simpa using (List.mem_filter.1 hb).2)

theorem mem_putL {x e : It} {es : List It} : e ∈ putL x es ↔ e = x ∨ (e ∈ es ∧ e.key ≠ x.key) := by
  unfold putL
  rw [List.mem_append, List.mem_cons, List.mem_filter, List.mem_filter]
  constructor
  · rintro (⟨h, h1⟩ | rfl | ⟨h, h1⟩)
    · exact .inr ⟨h, fun e0 => by rw [e0] at h1; simp [kc_refl] at h1⟩
    · exact .inl rfl
    · exact .inr ⟨h, fun e0 => by rw [e0] at h1; simp [kc_refl] at h1⟩
  · rintro (rfl | ⟨h, hne⟩)
    · exact .inr (.inl rfl)
    · rcases kc_vals e.key x.key with h1 | h1 | h1
      · exact .inl ⟨h, by simp; omega⟩
      · exact absurd (kc_zero h1) hne
      · exact .inr (.inr ⟨h, by rw [kc_swap]; simp; omega⟩)

theorem mem_delL {k : ByteArray} {e : It} {es : List It} : e ∈ delL k es ↔ e ∈ es ∧ e.key ≠ k := by simp [delL]

theorem putL_length (x : It) (es : List It) (h : Sorted es) : (putL x es).length ≤ es.length + 1 := by
  induction es with
  | nil => simp [putL]
  | cons y ys ih =>
    have h2 : Sorted ys := (List.pairwise_cons.1 h).2
    have := ih h2
    unfold putL at *
    simp only [List.filter_cons, List.length_append, List.length_cons] at *
    by_cases h1 : kc y.key x.key < 0
    · have h3 : ¬ kc x.key y.key < 0 := by rw [kc_swap]; omega
      simp [h1, h3]; omega
    · by_cases h3 : kc x.key y.key < 0
      · simp [h1, h3]; omega
      · simp [h1, h3]; omega

theorem delL_length (k : ByteArray) (es : List It) : (delL k es).length ≤ es.length := List.length_filter_le _ _
end Go.Proofs.Qxb6603401a
