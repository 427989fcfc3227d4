import Derived.Test.Qxb6603401aZzA
namespace Go.Proofs.Qxb6603401a
open Go Go.RowKit Go.Deep
set_option linter.unusedSimpArgs false
set_option linter.unusedVariables false

theorem sizeL_filter2 (p q : It → Bool) (es : List It) (h : ∀ e ∈ es, p e = true → q e = false) : sizeL (es.filter p) + sizeL (es.filter q) ≤ sizeL es := by
  induction es with
  | nil => simp [sizeL]
  | cons x es ih =>
    have := ih (fun e he => h e (List.mem_cons_of_mem _ he))
    rw [sizeL_cons]
    cases hp : p x with
    | true =>
      have hq := h x (by simp) hp
      simp only [List.filter_cons, hp, hq, if_true, sizeL_cons]
      simp only [Bool.false_eq_true, if_false]
      omega
    | false =>
      cases hq : q x with
      | true => simp only [List.filter_cons, hp, hq, if_true, sizeL_cons, Bool.false_eq_true, if_false]; omega
      | false => simp only [List.filter_cons, hp, hq, Bool.false_eq_true, if_false]; omega
theorem sizeL_put_le (x : It) (es : List It) : sizeL (putL x es) ≤ sizeL es + x.key.size + x.vn := by
  have := sizeL_filter2 (fun e => decide (kc e.key x.key < 0)) (fun e => decide (kc x.key e.key < 0)) es (fun e he h => by
    simp only [decide_eq_true_eq] at h
    simp only [decide_eq_false_iff_not]
    rw [kc_swap]; omega)
  unfold putL
  rw [sizeL_append, sizeL_cons]
  omega
theorem sizeL_del_le (k : ByteArray) (es : List It) : sizeL (delL k es) ≤ sizeL es := by
  have := sizeL_filter2 (fun e => !decide (e.key = k)) (fun _ => false) es (fun e he h => rfl)
  unfold delL
  omega
theorem look_put (x : It) (es : List It) (h : Sorted es) : look x.key (putL x es) = some x := look_mem (h.put x) (mem_putL.2 (.inl rfl))
theorem look_del (k : ByteArray) (es : List It) : look k (delL k es) = none := look_none (fun e he => (mem_delL.1 he).2)

/-- Readable bytes, all below block B. -/
def BytB (B : Nat) (w : World) (a : Option Addr) (n c : Nat) : Prop := ∃ z : Nat → Int, LstB B w (.slice a n c) n (fun i => .int .u8 (z i))
theorem BytB.below {B : Nat} {w w' : World} {a : Option Addr} {n c : Nat} (h : BytB B w a n c) (hb : Below B w w') : BytB B w' a n c := by
  obtain ⟨z, h⟩ := h
  exact ⟨z, h.below hb⟩
theorem BytB.toB {B : Nat} {w : World} {a : Option Addr} {n c : Nat} (h : BytB B w a n c) : Byt w a n c := by
  obtain ⟨z, h⟩ := h
  exact ⟨z, h.toL⟩
theorem Byt.toBB {w : World} {a : Option Addr} {n c : Nat} (h : Byt w a n c) : BytB w.heap.size w a n c := by
  obtain ⟨z, h⟩ := h
  exact ⟨z, h.toB⟩

/-- The empty tree, new. -/
theorem tree_new (w : World) : TreeAt noKeep w.heap.size (w.alloc (.cells #[.pointer none, .int .u64 0, .int .i64 0] 33)) [] :=
  ⟨List.Pairwise.nil, rfl, .pointer none, heap_alloc_new w _, .inl ⟨rfl, rfl, fun _ _ h => (by cases h), fun _ _ h => (by cases h), by simp, fun _ _ h => (by cases h), fun _ _ h => (by cases h)⟩⟩

/-- What a script's arguments are: below block B, sizes bounded. -/
structure Scr (B : Nat) (w : World) (kv vv dv : Value) (nk nv nd : Nat) (K : Nat → ByteArray) (A : Nat → Option Addr) (L C : Nat → Nat) (D : Nat → Bool) : Prop where
  keys : LstB B w kv nk (fun i => .string (K i))
  vals : LstB B w vv nv (fun i => .slice (A i) (L i) (C i))
  dels : LstB B w dv nd (fun i => .bool (D i))
  byt : ∀ i, i < nv → BytB B w (A i) (L i) (C i)
  hk : nk ≤ 4096
  hv : nv ≤ 4096
  ks : ∀ i, i < nk → (K i).size ≤ 1048576
  vs : ∀ i, i < nv → L i ≤ 1048576
theorem Scr.below {B : Nat} {w w' : World} {kv vv dv : Value} {nk nv nd : Nat} {K : Nat → ByteArray} {A : Nat → Option Addr} {L C : Nat → Nat} {D : Nat → Bool} (h : Scr B w kv vv dv nk nv nd K A L C D) (hb : Below B w w') : Scr B w' kv vv dv nk nv nd K A L C D :=
  ⟨h.keys.below hb, h.vals.below hb, h.dels.below hb, fun i hi => (h.byt i hi).below hb, h.hk, h.hv, h.ks, h.vs⟩

/-- The value of operation i. -/
def opv (nv : Nat) (A : Nat → Option Addr) (L C : Nat → Nat) (k : ByteArray) (i : Nat) : It := if i < nv then ⟨k, A i, L i, C i⟩ else ⟨k, none, 0, 0⟩
theorem opv_val (nv : Nat) (A : Nat → Option Addr) (L C : Nat → Nat) (k : ByteArray) (i : Nat) : (if i < nv then Value.slice (A i) (L i) (C i) else .slice none 0 0) = .slice (opv nv A L C k i).va (opv nv A L C k i).vn (opv nv A L C k i).vc := by
  unfold opv
  split <;> rfl
theorem opv_key (nv : Nat) (A : Nat → Option Addr) (L C : Nat → Nat) (k : ByteArray) (i : Nat) : (opv nv A L C k i).key = k := by
  unfold opv
  split <;> rfl
theorem Scr.opv {B : Nat} {w : World} {kv vv dv : Value} {nk nv nd : Nat} {K : Nat → ByteArray} {A : Nat → Option Addr} {L C : Nat → Nat} {D : Nat → Bool} (h : Scr B w kv vv dv nk nv nd K A L C D) (k : ByteArray) (i : Nat) :
    (opv nv A L C k i).vn ≤ 1048576 ∧ BytB B w (opv nv A L C k i).va (opv nv A L C k i).vn (opv nv A L C k i).vc := by
  unfold Qxb6603401a.opv
  split
  · next hi => exact ⟨h.vs i hi, h.byt i hi⟩
  · exact ⟨Nat.zero_le _, fun _ => 0, h.keys.1, none, 0, rfl, .inl rfl⟩
end Go.Proofs.Qxb6603401a
