import Derived.Test.Qxb6603805aRows
namespace Go.Proofs.Qxb6603805a.fnFirstFromMatchesScan

/-! ### The plain law: a heap-shaped tree of least values over 2^h leaves. No Go in sight. -/

/-- 'f' is such a tree: an inner node holds the lesser of its children. -/
def Seg (h : Nat) (f : Nat → Int) : Prop := ∀ m, 1 ≤ m → m < 2 ^ h → f m = if f (2 * m + 1) < f (2 * m) then f (2 * m + 1) else f (2 * m)

theorem half (n p : Nat) : n * (2 * p) = 2 * n * p := by rw [← Nat.mul_assoc, Nat.mul_comm n 2]
theorem two_pow_pos (e : Nat) : 0 < 2 ^ e := Nat.pos_of_ne_zero (by simp)

/-- A node at height e is below 'x' just where a leaf under it is. -/
theorem seg_lt {h : Nat} {f : Nat → Int} (hs : Seg h f) (x : Int) : ∀ (e d n : Nat), d + e = h → 2 ^ d ≤ n → n < 2 ^ (d + 1) →
    (f n < x ↔ ∃ m, n * 2 ^ e ≤ m ∧ m < (n + 1) * 2 ^ e ∧ f m < x)
  | 0, d, n, _, _, _ => by
    constructor
    · intro hlt; exact ⟨n, by simp, by simp, hlt⟩
    · rintro ⟨m, h1, h2, h3⟩
      obtain rfl : m = n := by simp at h1 h2; omega
      exact h3
  | e + 1, d, n, hd, h1, h2 => by
    have hp : 2 ^ (d + 1 + 1) = 2 * 2 ^ (d + 1) := by rw [Nat.pow_succ (n := 2) (m := d + 1)]; omega
    have hp' : 2 ^ (d + 1) = 2 * 2 ^ d := by rw [Nat.pow_succ]; omega
    have hpd := two_pow_pos d
    have hn : n < 2 ^ h := Nat.lt_of_lt_of_le h2 (Nat.pow_le_pow_right (by omega) (by omega))
    have i1 := seg_lt hs x e (d + 1) (2 * n) (by omega) (by omega) (by omega)
    have i2 := seg_lt hs x e (d + 1) (2 * n + 1) (by omega) (by omega) (by omega)
    have he : 2 ^ (e + 1) = 2 * 2 ^ e := by rw [Nat.pow_succ]; omega
    have hpe := two_pow_pos e
    have a1 : n * 2 ^ (e + 1) = 2 * n * 2 ^ e := by rw [he]; exact half _ _
    have a2 : (n + 1) * 2 ^ (e + 1) = (2 * n + 1 + 1) * 2 ^ e := by rw [he, show 2 * n + 1 + 1 = 2 * (n + 1) by omega]; exact half _ _
    have a3 : (2 * n + 1) * 2 ^ e = 2 * n * 2 ^ e + 2 ^ e := by rw [Nat.add_mul]; omega
    have a4 : (2 * n + 1 + 1) * 2 ^ e = 2 * n * 2 ^ e + 2 ^ e + 2 ^ e := by rw [Nat.add_mul, a3]; omega
    rw [hs n (by omega) hn]
    rw [a1, a2]
    constructor
    · intro hlt
      by_cases hc : f (2 * n + 1) < f (2 * n)
      · rw [if_pos hc] at hlt
        obtain ⟨m, m1, m2, m3⟩ := i2.1 hlt
        exact ⟨m, by omega, m2, m3⟩
      · rw [if_neg hc] at hlt
        obtain ⟨m, m1, m2, m3⟩ := i1.1 hlt
        exact ⟨m, m1, by omega, m3⟩
    · rintro ⟨m, m1, m2, m3⟩
      by_cases hm : m < (2 * n + 1) * 2 ^ e
      · have := i1.2 ⟨m, m1, hm, m3⟩
        split <;> omega
      · have := i2.2 ⟨m, by omega, m2, m3⟩
        split <;> omega

/-- WHAT THE OUTER LOOP KEEPS: node n at height e; every leaf from place s (in the tree's numbering) up to n's first leaf is at least x. -/
structure Inv (h : Nat) (f : Nat → Int) (s : Nat) (x : Int) (n e d : Nat) : Prop where
  sum : d + e = h
  lo : 2 ^ d ≤ n
  hi : n < 2 ^ (d + 1)
  from_ : s ≤ n * 2 ^ e
  all : ∀ m, s ≤ m → m < n * 2 ^ e → x ≤ f m

/-- .. AND THE INNER ONE, while it climbs: the place where n ends; n may have left the tree at its head (then n is 0). -/
structure Climb (h : Nat) (f : Nat → Int) (s : Nat) (x : Int) (n e d : Nat) : Prop where
  sum : (d + e = h ∧ 2 ^ d ≤ n ∧ n < 2 ^ (d + 1)) ∨ (n = 0 ∧ e = h + 1)
  from_ : s ≤ (n + 1) * 2 ^ e
  all : ∀ m, s ≤ m → m < (n + 1) * 2 ^ e → x ≤ f m

theorem Inv.climb {h : Nat} {f : Nat → Int} {s : Nat} {x : Int} {n e d : Nat} (hs : Seg h f) (i : Inv h f s x n e d) (hx : x ≤ f n) : Climb h f s x n e d := by
  have hpe := two_pow_pos e
  have a3 : (n + 1) * 2 ^ e = n * 2 ^ e + 2 ^ e := by rw [Nat.add_mul]; omega
  refine ⟨.inl ⟨i.sum, i.lo, i.hi⟩, by have := i.from_; omega, fun m h1 h2 => ?_⟩
  by_cases hm : m < n * 2 ^ e
  · exact i.all m h1 hm
  · by_cases hlt : f m < x
    · have := (seg_lt hs x e d n i.sum i.lo i.hi).2 ⟨m, by omega, h2, hlt⟩
      omega
    · omega

/-- 'for n%2 == 1 { n /= 2 }' -/
theorem Climb.up {h : Nat} {f : Nat → Int} {s : Nat} {x : Int} {n e d : Nat} (c : Climb h f s x n e d) (hodd : n % 2 = 1) : Climb h f s x (n / 2) (e + 1) (d - 1) := by
  have he : 2 ^ (e + 1) = 2 * 2 ^ e := by rw [Nat.pow_succ]; omega
  have a1 : (n / 2 + 1) * 2 ^ (e + 1) = (n + 1) * 2 ^ e := by
    obtain ⟨q, rfl⟩ : ∃ q, n = 2 * q + 1 := ⟨n / 2, by omega⟩
    rw [he, show (2 * q + 1) / 2 = q by omega, show 2 * q + 1 + 1 = 2 * (q + 1) by omega]
    exact half _ _
  refine ⟨?_, by rw [a1]; exact c.from_, fun m h1 h2 => c.all m h1 (by rw [← a1]; exact h2)⟩
  rcases c.sum with ⟨h1, h2, h3⟩ | ⟨h1, _⟩
  · cases d with
    | zero =>
      obtain rfl : n = 1 := by simp at h2 h3; omega
      exact .inr ⟨by simp, by omega⟩
    | succ d =>
      have p1 : 2 ^ (d + 1) = 2 * 2 ^ d := by rw [Nat.pow_succ]; omega
      have p2 : 2 ^ (d + 1 + 1) = 2 * 2 ^ (d + 1) := by rw [Nat.pow_succ (n := 2) (m := d + 1)]; omega
      exact .inl ⟨by omega, by simp; omega, by simp; omega⟩
  · omega

/-- 'if n == 0 { return nil }': no leaf from s on is below x. -/
theorem Climb.none {h : Nat} {f : Nat → Int} {s : Nat} {x : Int} {n e d : Nat} (c : Climb h f s x n e d) (h0 : n = 0) : ∀ m, s ≤ m → m < 2 * 2 ^ h → x ≤ f m := by
  rcases c.sum with ⟨h1, h2, h3⟩ | ⟨_, he⟩
  · have := two_pow_pos d; omega
  · intro m h1 h2
    refine c.all m h1 ?_
    rw [h0, he, Nat.pow_succ]; omega

/-- 'n++' -/
theorem Climb.next {h : Nat} {f : Nat → Int} {s : Nat} {x : Int} {n e d : Nat} (c : Climb h f s x n e d) (h0 : 0 < n) (heven : n % 2 = 0) : Inv h f s x (n + 1) e d ∧ 0 < d := by
  rcases c.sum with ⟨h1, h2, h3⟩ | ⟨h1, _⟩
  · cases d with
    | zero => simp at h2 h3; omega
    | succ d =>
      have p2 : 2 ^ (d + 1 + 1) = 2 * 2 ^ (d + 1) := by rw [Nat.pow_succ (n := 2) (m := d + 1)]; omega
      exact ⟨⟨h1, by omega, by omega, c.from_, c.all⟩, by omega⟩
  · omega

/-- THE LAST LOOP: n is below x, every leaf from s up to its first is not. -/
structure Down (h : Nat) (f : Nat → Int) (s : Nat) (x : Int) (n e d : Nat) : Prop where
  inv : Inv h f s x n e d
  lt : f n < x

/-- 'n *= 2; if f[n] >= x { n++ }' -/
theorem Down.left {h : Nat} {f : Nat → Int} {s : Nat} {x : Int} {n e d : Nat} (g : Down h f s x n (e + 1) d) (hx : f (2 * n) < x) : Down h f s x (2 * n) e (d + 1) := by
  have he : 2 ^ (e + 1) = 2 * 2 ^ e := by rw [Nat.pow_succ]; omega
  have p1 : 2 ^ (d + 1) = 2 * 2 ^ d := by rw [Nat.pow_succ]; omega
  have p2 : 2 ^ (d + 1 + 1) = 2 * 2 ^ (d + 1) := by rw [Nat.pow_succ (n := 2) (m := d + 1)]; omega
  have a1 : n * 2 ^ (e + 1) = 2 * n * 2 ^ e := by rw [he]; exact half _ _
  obtain ⟨⟨h1, h2, h3, h4, h5⟩, _⟩ := g
  exact ⟨⟨by omega, by omega, by omega, by rw [← a1]; exact h4, fun m m1 m2 => h5 m m1 (by rw [a1]; exact m2)⟩, hx⟩

theorem Down.right {h : Nat} {f : Nat → Int} {s : Nat} {x : Int} {n e d : Nat} (hs : Seg h f) (g : Down h f s x n (e + 1) d) (hx : x ≤ f (2 * n)) : Down h f s x (2 * n + 1) e (d + 1) := by
  have he : 2 ^ (e + 1) = 2 * 2 ^ e := by rw [Nat.pow_succ]; omega
  have p1 : 2 ^ (d + 1) = 2 * 2 ^ d := by rw [Nat.pow_succ]; omega
  have p2 : 2 ^ (d + 1 + 1) = 2 * 2 ^ (d + 1) := by rw [Nat.pow_succ (n := 2) (m := d + 1)]; omega
  have hpd := two_pow_pos d
  have a1 : n * 2 ^ (e + 1) = 2 * n * 2 ^ e := by rw [he]; exact half _ _
  have a3 : (2 * n + 1) * 2 ^ e = 2 * n * 2 ^ e + 2 ^ e := by rw [Nat.add_mul]; omega
  obtain ⟨⟨h1, h2, h3, h4, h5⟩, hlt⟩ := g
  have hn : n < 2 ^ h := Nat.lt_of_lt_of_le h3 (Nat.pow_le_pow_right (by omega) (by omega))
  have hm := hs n (by omega) hn
  refine ⟨⟨by omega, by omega, by omega, by omega, fun m m1 m2 => ?_⟩, ?_⟩
  · by_cases hmm : m < n * 2 ^ (e + 1)
    · exact h5 m m1 hmm
    · by_cases hl : f m < x
      · have := (seg_lt hs x e (d + 1) (2 * n) (by omega) (by omega) (by omega)).2 ⟨m, by omega, by omega, hl⟩
        omega
      · omega
  · split at hm <;> omega

/-- THE SPECIFICATION: r is the first place k ≥ i with xs[k] < x, or -1. -/
def First (xs : List Int) (i : Nat) (x r : Int) : Prop :=
  (∃ k : Nat, i ≤ k ∧ k < xs.length ∧ xs.getD k 0 < x ∧ (∀ j, i ≤ j → j < k → x ≤ xs.getD j 0) ∧ r = k) ∨ ((∀ j, i ≤ j → j < xs.length → x ≤ xs.getD j 0) ∧ r = -1)

theorem First.unique {xs : List Int} {i : Nat} {x r r' : Int} (h : First xs i x r) (h' : First xs i x r') : r = r' := by
  rcases h with ⟨k, h1, h2, h3, h4, rfl⟩ | ⟨h1, rfl⟩ <;> rcases h' with ⟨k', h1', h2', h3', h4', rfl⟩ | ⟨h1', rfl⟩
  · rcases Nat.lt_trichotomy k k' with h | h | h
    · have := h4' k h1 h; omega
    · rw [h]
    · have := h4 k' h1' h; omega
  · have := h1' k h1 h2; omega
  · have := h1 k' h1' h2'; omega
  · rfl

/-- Leaf j of the tree. -/
def leaf (xs : List Int) (top : Int) (j : Nat) : Int := if j < xs.length then xs.getD j 0 else top

theorem isPow {L : Nat} (h0 : 0 < L) (h : L &&& (L - 1) = 0) : ∃ k, L = 2 ^ k := (Nat.and_sub_one_eq_zero_iff_isPowerOfTwo (by omega)).1 h
end Go.Proofs.Qxb6603805a.fnFirstFromMatchesScan
