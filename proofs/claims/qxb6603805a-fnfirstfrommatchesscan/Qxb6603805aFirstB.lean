import Derived.Test.Qxb6603805aFirstA
namespace Go.Proofs.Qxb6603805a.fnFirstFromMatchesScan
open Go.RowKit Go.Deep

theorem Inv.bound {h : Nat} {f : Nat → Int} {s : Nat} {x : Int} {n e d : Nat} (i : Inv h f s x n e d) : (n + 1) * 2 ^ e ≤ 2 * 2 ^ h ∧ n * 2 ^ e < (n + 1) * 2 ^ e ∧ n < 2 * 2 ^ h ∧ 1 ≤ n := by
  obtain ⟨h1, h2, h3, _, _⟩ := i
  have hpe := two_pow_pos e
  have hpd := two_pow_pos d
  have a3 : (n + 1) * 2 ^ e = n * 2 ^ e + 2 ^ e := by rw [Nat.add_mul]; omega
  have a4 : (n + 1) * 2 ^ e ≤ 2 ^ (d + 1) * 2 ^ e := Nat.mul_le_mul_right _ (by omega)
  have a5 : 2 ^ (d + 1) * 2 ^ e = 2 * 2 ^ h := by rw [← h1, ← Nat.pow_add, show d + 1 + e = (d + e) + 1 by omega, Nat.pow_succ]; omega
  have a6 : 2 ^ (d + 1) ≤ 2 ^ (h + 1) := Nat.pow_le_pow_right (by omega) (by omega)
  have a7 : 2 ^ (h + 1) = 2 * 2 ^ h := by rw [Nat.pow_succ]; omega
  exact ⟨by omega, by omega, by omega, by omega⟩

theorem Climb.boundary {n e : Nat} (hodd : n % 2 = 1) : (n / 2 + 1) * 2 ^ (e + 1) = (n + 1) * 2 ^ e := by
  obtain ⟨q, rfl⟩ : ∃ q, n = 2 * q + 1 := ⟨n / 2, by omega⟩
  have he : 2 ^ (e + 1) = 2 * 2 ^ e := by rw [Nat.pow_succ]; omega
  rw [he, show (2 * q + 1) / 2 = q by omega, show 2 * q + 1 + 1 = 2 * (q + 1) by omega]
  exact half _ _

/-- The pointer that firstFrom hands back. -/
def ptrOf (P : Nat → Nat) (r : Int) : Option Addr := if r < 0 then none else some ⟨P r.toNat, 0, none⟩

theorem first_none {xs : List Int} {h : Nat} {f : Nat → Int} {i : Nat} {x : Int} (hl : ∀ j, j < 2 ^ h → f (2 ^ h + j) = leaf xs top j) (hn : xs.length ≤ 2 ^ h)
    (hall : ∀ m, 2 ^ h + i ≤ m → m < 2 * 2 ^ h → x ≤ f m) : First xs i x (-1) := by
  refine .inr ⟨fun j j1 j2 => ?_, rfl⟩
  have := hall (2 ^ h + j) (by omega) (by omega)
  rw [hl j (by omega)] at this
  unfold leaf at this
  rw [if_pos j2] at this
  exact this

theorem first_some {xs : List Int} {h : Nat} {f : Nat → Int} {i : Nat} {x : Int} {n d : Nat} (hl : ∀ j, j < 2 ^ h → f (2 ^ h + j) = leaf xs top j) (hx : x ≤ top)
    (g : Down h f (2 ^ h + i) x n 0 d) : 2 ^ h ≤ n ∧ n - 2 ^ h < xs.length ∧ First xs i x ((n - 2 ^ h : Nat) : Int) := by
  obtain ⟨⟨h1, h2, h3, h4, h5⟩, hlt⟩ := g
  obtain rfl : d = h := by omega
  have p1 : 2 ^ (d + 1) = 2 * 2 ^ d := by rw [Nat.pow_succ]; omega
  simp only [Nat.pow_zero, Nat.mul_one] at h4 h5
  have hk := hl (n - 2 ^ d) (by omega)
  rw [show 2 ^ d + (n - 2 ^ d) = n by omega] at hk
  have hlen : n - 2 ^ d < xs.length := by
    rcases Nat.lt_or_ge (n - 2 ^ d) xs.length with h | h
    · exact h
    · unfold leaf at hk; rw [if_neg (by omega)] at hk; omega
  refine ⟨by omega, hlen, .inl ⟨n - 2 ^ d, by omega, hlen, ?_, fun j j1 j2 => ?_, rfl⟩⟩
  · unfold leaf at hk; rw [if_pos hlen] at hk; rw [← hk]; exact hlt
  · have := h5 (2 ^ d + j) (by omega) (by omega)
    rw [hl j (by omega)] at this
    unfold leaf at this
    rw [if_pos (by omega)] at this
    exact this

set_option maxHeartbeats 400000 in
theorem from_past (db n cn : Nat) (da : Option Addr) (xs : List Int) (i : Int) (x : Int) (w : World) (hn : n = xs.length) (hs : n ≤ 65536) (hi : (n : Int) ≤ i) (_hi2 : i ≤ 9223372036854775807)
    (c0 : w.cell? ⟨db, 0, none⟩ = some (.slice da n cn)) (P : Nat → Nat) :
    Calls Try.prog 21 #[.pointer (some ⟨db, 0, none⟩), .int .i64 i, .int .i64 x] w fun e w' => ∃ r, First xs i.toNat x r ∧ e = .returned (.pointer (ptrOf P r)) ∧ Below w.heap.size w w' := by
  have HN : Hid _ := hn
  clear hn
  go_enter Try.func21, Try.ntmps21
  go_wp2
  go_ret
  exact ⟨-1, .inr ⟨fun j j1 j2 => by have := HN.out; omega, rfl⟩, rfl, Below.refl _ _⟩

theorem Down.small {h : Nat} {f : Nat → Int} {s : Nat} {x : Int} {n e d : Nat} (g : Down h f s x n (e + 1) d) : n < 2 ^ h := Nat.lt_of_lt_of_le g.inv.hi (Nat.pow_le_pow_right (by omega) (by have := g.inv.sum; omega))
theorem Down.great {h : Nat} {f : Nat → Int} {s : Nat} {x : Int} {n d : Nat} (g : Down h f s x n 0 d) : 2 ^ h ≤ n := by
  have := g.inv.sum
  obtain rfl : d = h := by omega
  exact g.inv.lo
theorem Climb.small {h : Nat} {f : Nat → Int} {s : Nat} {x : Int} {n e d : Nat} (c : Climb h f s x n e d) : n < 2 * 2 ^ h := by
  rcases c.sum with ⟨h1, _, h3⟩ | ⟨rfl, _⟩
  · have a6 : 2 ^ (d + 1) ≤ 2 ^ (h + 1) := Nat.pow_le_pow_right (by omega) (by omega)
    have a7 : 2 ^ (h + 1) = 2 * 2 ^ h := by rw [Nat.pow_succ]; omega
    omega
  · have := two_pow_pos h; omega

set_option maxHeartbeats 2000000 in
theorem from_in (db n cn pb eb h i : Nat) (xs : List Int) (x : Int) (f : Nat → Int) (P : Nat → Nat) (w : World) (hn : n = xs.length) (hi : i < n) (hL : 2 ^ h ≤ 65536) (hnL : n ≤ 2 ^ h) (hx : x ≤ top) (_hx0 : -9223372036854775808 ≤ x)
    (c0 : w.cell? ⟨db, 0, none⟩ = some (.slice (some ⟨pb, 0, none⟩) n cn)) (c1 : w.cell? ⟨db, 1, none⟩ = some (.slice (some ⟨eb, 0, none⟩) (2 * 2 ^ h) (2 * 2 ^ h))) (c4 : w.cell? ⟨db, 4, none⟩ = some (.int .i64 ((2 ^ h : Nat) : Int)))
    (hp : ∀ j, j < n → w.cell? ⟨pb, j, none⟩ = some (.pointer (some ⟨P j, 0, none⟩))) (hrow : w.rowIs eb 2 (2 * 2 ^ h) (nums f)) (hseg : Seg h f) (hl : ∀ j, j < 2 ^ h → f (2 ^ h + j) = leaf xs top j) :
    Calls Try.prog 21 #[.pointer (some ⟨db, 0, none⟩), .int .i64 i, .int .i64 x] w fun e w' => ∃ r, First xs i x r ∧ e = .returned (.pointer (ptrOf P r)) ∧ Below w.heap.size w w' := by
  have hpos := two_pow_pos h
  have hstart : Inv h f (2 ^ h + i) x (2 ^ h + i) 0 h := ⟨by omega, by omega, by rw [Nat.pow_succ]; omega, by simp, fun m m1 m2 => by simp at m2; omega⟩
  have HS : Hid (Inv h f (2 ^ h + i) x (2 ^ h + i) 0 h ∧ n = xs.length ∧ x ≤ top ∧ Seg h f ∧ (∀ j, j < 2 ^ h → f (2 ^ h + j) = leaf xs top j) ∧ (∀ j, j < n → w.cell? ⟨pb, j, none⟩ = some (.pointer (some ⟨P j, 0, none⟩))) ∧ n ≤ 2 ^ h ∧ 2 ^ h ≤ 65536) := ⟨hstart, hn, hx, hseg, hl, hp, hnL, hL⟩
  have HR : Hid (∀ m, m < 2 * 2 ^ h → w.cell? ⟨eb, m, none⟩ = some (.int .i64 (f m))) := fun m hm => hrow.cell hm
  clear hstart hn hx hseg hl hp hrow
  generalize hLL : 2 ^ h = L at c1 c4 hnL hpos hL
  have HL : Hid _ := hLL
  clear hLL
  go_enter Try.func21, Try.ntmps21
  go_wp2
  go_loopg [7] (2 * L) (fun g v wr => ∃ n e d : Nat, Inv h f (L + i) x n e d ∧ 2 * L - n * 2 ^ e ≤ g ∧ v = .int .i64 n ∧ wr = w)
  case atStart => exact ⟨L + i, 0, h, by rw [← HL.out]; exact HS.out.1, by omega, by go_num, rfl⟩
  case round =>
    obtain ⟨m, e, d, hinv, hg, rfl, rfl⟩ := hrel
    have hbd := hinv.bound
    rw [HL.out] at hbd
    have hm2 : m < 2 * L := hbd.2.2.1
    have hc := HR.out m (by rw [HL.out]; exact hm2)
    have HI : Hid _ := hinv
    have HG : Hid _ := And.intro hg hbd
    clear hinv hg hbd
    by_cases hge : x ≤ f m
    · have hcl := HI.out.climb HS.out.2.2.2.1 hge
      have HC : Hid _ := hcl
      clear hcl
      generalize hfm : f m = y at *
      clear hfm
      go_wp2
      go_loopg [7] m (fun g v wr' => ∃ n e' d' : Nat, Climb h f (L + i) x n e' d' ∧ (n + 1) * 2 ^ e' = (m + 1) * 2 ^ e ∧ g = n ∧ v = .int .i64 n ∧ wr' = wr)
      case atStart => exact ⟨m, e, d, HC.out, rfl, rfl, rfl, rfl⟩
      case round =>
        clear HC
        obtain ⟨n', e', d', hcl, hbd', hg', rfl, rfl⟩ := hrel
        have hn2 := hcl.small
        rw [HL.out] at hn2
        have HC : Hid _ := hcl
        have HB : Hid _ := hbd'
        have HG' : Hid _ := hg'
        clear hcl hbd' hg'
        by_cases hodd : n' % 2 = 1
        · have ho : ((n' : Int) % 2 == 1) = true := by rw [beq_iff_eq]; omega
          have hup := HC.out.up hodd
          have HU : Hid _ := hup
          have HO : Hid _ := hodd
          clear hup hodd
          go_wp2
          go_roundg (n' / 2)
          case measure => have := HG'.out; have := HO.out; omega
          case rel => exact ⟨n' / 2, e' + 1, d' - 1, HU.out, by rw [Climb.boundary HO.out]; exact HB.out, rfl, by go_num, rfl⟩
        · have ho : ((n' : Int) % 2 == 1) = false := by rw [beq_eq_false_iff_ne]; omega
          have HO : Hid (n' % 2 = 0) := (by omega : n' % 2 = 0)
          clear hodd
          by_cases h0 : n' = 0
          · have hno := HC.out.none h0
            have hf := first_none HS.out.2.2.2.2.1 (by rw [← HS.out.2.1]; exact HS.out.2.2.2.2.2.2.1) (by rw [HL.out]; rw [HL.out] at hno; exact hno)
            subst h0
            have HF : Hid (First xs i x (-1)) := hf
            clear hf hno
            go_wp2
            go_ret
            exact ⟨-1, HF.out, rfl, Below.refl _ _⟩
          · have hne : ((n' : Int) == 0) = false := by rw [beq_eq_false_iff_ne]; omega
            have hnx := HC.out.next (by omega) (by have := HO.out; omega)
            have HX : Hid _ := hnx.1
            clear hnx
            go_wp2
            go_roundg (2 * L - (n' + 1) * 2 ^ e')
            case measure => have := HG.out; have := HB.out; omega
            case rel => exact ⟨n' + 1, e', d', HX.out, by omega, by go_num, rfl⟩
    · have hdn : Down h f (L + i) x m e d := ⟨HI.out, by omega⟩
      have HD : Hid _ := hdn
      clear hdn
      generalize hfm : f m = y at *
      clear hfm
      go_wp2
      go_loopg [7] e (fun g v wr' => ∃ n e' d' : Nat, Down h f (L + i) x n e' d' ∧ g = e' ∧ v = .int .i64 n ∧ wr' = wr)
      case atStart => exact ⟨m, e, d, HD.out, rfl, rfl, rfl⟩
      case round =>
        clear HD
        obtain ⟨n', e', d', hdn, hg', rfl, rfl⟩ := hrel
        have hb2 := hdn.inv.bound
        rw [HL.out] at hb2
        have hn2 : n' < 2 * L := hb2.2.2.1
        have HD : Hid _ := hdn
        have HG' : Hid _ := hg'
        clear hdn hb2 hg'
        cases e' with
        | zero =>
          have hgt := HD.out.great
          rw [HL.out] at hgt
          have hfs := first_some HS.out.2.2.2.2.1 HS.out.2.2.1 (by rw [HL.out]; exact HD.out)
          rw [HL.out] at hfs
          have hpp := HS.out.2.2.2.2.2.1 (n' - L) (by rw [HS.out.2.1]; exact hfs.2.1)
          have hnn : n' - L < n := by rw [HS.out.2.1]; exact hfs.2.1
          have HF : Hid (First xs i x ((n' - L : Nat) : Int)) := hfs.2.2
          clear hfs
          obtain ⟨q, rfl⟩ : ∃ q, n' = L + q := ⟨n' - L, by omega⟩
          rw [show L + q - L = q by omega] at hpp hnn
          have q1 : (0 : Int) ≤ (q : Int) := by omega
          have q2 : (q : Int) < (n : Int) := by omega
          have q3 : ((L + q : Nat) : Int) = (L : Int) + (q : Int) := by omega
          rw [q3]
          clear q3
          go_wp2
          go_quiet (fail)
          go_wp2
          go_ret
          refine ⟨(q : Int), by have := HF.out; rwa [show L + q - L = q by omega] at this, ?_, below_drewN (Below.refl _ _) _⟩
          simp [ptrOf]
        | succ e' =>
          have hlt := HD.out.small
          rw [HL.out] at hlt
          have hc2 := HR.out (2 * n') (by rw [HL.out]; omega)
          rw [Nat.mul_comm 2 n'] at hc2
          by_cases hge2 : x ≤ f (2 * n')
          · have hr := HD.out.right HS.out.2.2.2.1 hge2
            have HX : Hid (Down h f (L + i) x (2 * n' + 1) e' (d' + 1)) := hr
            clear hr
            rw [Nat.mul_comm 2 n'] at hge2
            generalize hfm2 : f (n' * 2) = y2 at hge2 hc2
            clear hfm2
            go_wp2
            go_roundg e'
            case measure => have := HG'.out; omega
            case rel => exact ⟨2 * n' + 1, e', d' + 1, HX.out, rfl, by go_num, rfl⟩
          · have hr := HD.out.left (by omega)
            have HX : Hid (Down h f (L + i) x (2 * n') e' (d' + 1)) := hr
            clear hr
            rw [Nat.mul_comm 2 n'] at hge2
            generalize hfm2 : f (n' * 2) = y2 at hge2 hc2
            clear hfm2
            go_wp2
            go_roundg e'
            case measure => have := HG'.out; omega
            case rel => exact ⟨2 * n', e', d' + 1, HX.out, rfl, by go_num, rfl⟩
end Go.Proofs.Qxb6603805a.fnFirstFromMatchesScan
