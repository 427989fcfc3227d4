import Derived.Test.Qxb6603805aMeetLaw
namespace Go.Proofs.Qxb6603805a.fnMeetIdempotentAndAbsorbing
open Go.RowKit Go.Deep

set_option maxHeartbeats 1000000 in
theorem bytes_any (a0 a1 a2 a3 : Option Addr) (n0 n1 n2 n3 c0 c1 c2 c3 : Nat) (w0 : n0 ≤ maxLen) (w1 : n1 ≤ maxLen) (w2 : n2 ≤ maxLen) (w3 : n3 ≤ maxLen) (w : World) :
    Calls Try.prog 11 #[.slice a0 n0 c0, .slice a1 n1 c1, .slice a2 n2 c2, .slice a3 n3 c3] w fun e w' => ∃ b, e = .returned (.bool b) ∧ w = w' := by
  unfold maxLen at *
  go_enter Try.func11, Try.ntmps11
  go_wp2
  all_goals go_ret
  all_goals exact ⟨_, rfl, rfl⟩

set_option maxHeartbeats 4000000 in
/-- The law answers at once where a slice is too long or the lengths do not fit. -/
theorem walk_out (a0 a1 a2 a3 : Option Addr) (n0 n1 n2 n3 c0 c1 c2 c3 : Nat) (w0 : n0 ≤ maxLen) (w1 : n1 ≤ maxLen) (w2 : n2 ≤ maxLen) (w3 : n3 ≤ maxLen) (w : World)
    (h : 65536 < n0 ∨ 65536 < n1 ∨ 65536 < n2 ∨ 65536 < n3 ∨ n0 ≠ n1 ∨ n2 ≠ n3) :
    Calls Try.prog 4 #[.slice a0 n0 c0, .slice a1 n1 c1, .slice a2 n2 c2, .slice a3 n3 c3] w fun e w' => e = .returned (.bool true) ∧ Below w.heap.size w w' := by
  have hB := bytes_any a0 a1 a2 a3 n0 n1 n2 n3 c0 c1 c2 c3 w0 w1 w2 w3
  unfold maxLen at *
  by_cases h0 : 65536 < n0
  · go_enter Try.func4, Try.ntmps4
    go_wp2_with (go_at_call 11; refine (hB _).mono ?_; rintro e w' ⟨b, rfl, rfl⟩; cases b)
    all_goals go_ret
    all_goals exact ⟨rfl, Below.refl _ _⟩
  by_cases h1 : 65536 < n1
  · go_enter Try.func4, Try.ntmps4
    go_wp2_with (go_at_call 11; refine (hB _).mono ?_; rintro e w' ⟨b, rfl, rfl⟩; cases b)
    all_goals go_ret
    all_goals exact ⟨rfl, Below.refl _ _⟩
  by_cases h2 : 65536 < n2
  · go_enter Try.func4, Try.ntmps4
    go_wp2_with (go_at_call 11; refine (hB _).mono ?_; rintro e w' ⟨b, rfl, rfl⟩; cases b)
    all_goals go_ret
    all_goals exact ⟨rfl, Below.refl _ _⟩
  by_cases h3 : 65536 < n3
  · go_enter Try.func4, Try.ntmps4
    go_wp2_with (go_at_call 11; refine (hB _).mono ?_; rintro e w' ⟨b, rfl, rfl⟩; cases b)
    all_goals go_ret
    all_goals exact ⟨rfl, Below.refl _ _⟩
  by_cases h4 : n0 = n1
  · subst h4
    have h5 : ((n2 : Int) != (n3 : Int)) = true := by rw [bne_iff_ne]; omega
    go_enter Try.func4, Try.ntmps4
    go_wp2_with (go_at_call 11; refine (hB _).mono ?_; rintro e w' ⟨b, rfl, rfl⟩; cases b)
    all_goals go_ret
    all_goals exact ⟨rfl, Below.refl _ _⟩
  · have h5 : ((n0 : Int) != (n1 : Int)) = true := by rw [bne_iff_ne]; omega
    go_enter Try.func4, Try.ntmps4
    go_wp2_with (go_at_call 11; refine (hB _).mono ?_; rintro e w' ⟨b, rfl, rfl⟩; cases b)
    all_goals go_ret
    all_goals exact ⟨rfl, Below.refl _ _⟩

theorem rising_any {v : Value} {xs : List Int} {w : World} (h : Row w v xs) (hs : xs.length ≤ 1048576) :
    Calls Try.prog 7 #[v] w fun e w' => e = .returned (.bool (risingB xs)) ∧ Below w.heap.size w w' := by
  obtain ⟨a, c, rfl, hx | ⟨b, off, rfl, hc⟩⟩ := h
  · subst hx
    go_enter Try.func7, Try.ntmps7
    go_wp2
    refine wp_loop_rounds 1 ?_
    rw [rounds_succ]
    go_wp2
    go_ret
    exact ⟨rfl, Below.refl _ _⟩
  · exact rising_some b off c _ xs w rfl hs hc

set_option maxHeartbeats 4000000 in
theorem walk_in (a0 a1 a2 a3 : Option Addr) (n m c0 c1 c2 c3 : Nat) (xs ys zs us : List Int) (w : World) (hn : n ≤ 65536) (hm : m ≤ 65536)
    (r0 : Row w (.slice a0 n c0) xs) (r1 : Row w (.slice a1 n c1) ys) (r2 : Row w (.slice a2 m c2) zs) (r3 : Row w (.slice a3 m c3) us)
    (l0 : xs.length = n) (l1 : ys.length = n) (l2 : zs.length = m) (l3 : us.length = m) :
    Calls Try.prog 4 #[.slice a0 n c0, .slice a1 n c1, .slice a2 m c2, .slice a3 m c3] w fun e w' => e = .returned (.bool true) ∧ Below w.heap.size w w' := by
  have hB := bytes_any a0 a1 a2 a3 n n m m c0 c1 c2 c3 (by unfold maxLen; omega) (by unfold maxLen; omega) (by unfold maxLen; omega) (by unfold maxLen; omega)
  have C0 := rising_any r0 (by omega)
  have R2 : ∀ w', Below w.heap.size w w' → Calls Try.prog 7 #[.slice a2 m c2] w' fun e w'' => e = .returned (.bool (risingB zs)) ∧ Below w'.heap.size w' w'' := fun w' hb => rising_any (r2.later hb) (by omega)
  have E1 : meetL (xs.length + xs.length) (xs.zip ys) (xs.zip ys) = xs.zip ys := meetL_self _ _ (by simp; omega)
  have z1 : (xs.zip ys).map Prod.fst = xs := List.map_fst_zip (by omega)
  have z2 : (xs.zip ys).map Prod.snd = ys := List.map_snd_zip (by omega)
  have HI : Hid ((∀ w, Calls Try.prog 11 #[.slice a0 n c0, .slice a1 n c1, .slice a2 m c2, .slice a3 m c3] w fun e w' => ∃ b, e = .returned (.bool b) ∧ w = w') ∧
    (Calls Try.prog 7 #[.slice a0 n c0] w fun e w' => e = .returned (.bool (risingB xs)) ∧ Below w.heap.size w w') ∧
    (∀ w', Below w.heap.size w w' → Calls Try.prog 7 #[.slice a2 m c2] w' fun e w'' => e = .returned (.bool (risingB zs)) ∧ Below w'.heap.size w' w'')) := ⟨hB, C0, R2⟩
  have HL : Hid (xs.length = n ∧ ys.length = n ∧ zs.length = m ∧ us.length = m) := ⟨l0, l1, l2, l3⟩
  have HE : Hid (meetL (xs.length + xs.length) (xs.zip ys) (xs.zip ys) = xs.zip ys ∧ (xs.zip ys).map Prod.fst = xs ∧ (xs.zip ys).map Prod.snd = ys) := ⟨E1, z1, z2⟩
  clear hB C0 R2 l0 l1 l2 l3 E1 z1 z2
  obtain ⟨bx, hbx⟩ : ∃ b, risingB xs = b := ⟨_, rfl⟩
  obtain ⟨bz, hbz⟩ : ∃ b, risingB zs = b := ⟨_, rfl⟩
  rw [hbx, hbz] at HI
  have HB : Hid (risingB zs = bz) := hbz
  clear hbx hbz
  go_enter Try.func4, Try.ntmps4
  go_wp2_with fail
  refine (HI.out.1 _).mono ?_
  rintro e w' ⟨b, rfl, rfl⟩
  cases b
  · go_wp2_with fail
    go_ret
    exact ⟨rfl, Below.refl _ _⟩
  go_wp2_with fail
  refine (HI.out.2.1).mono ?_
  rintro e w1 ⟨rfl, hb1⟩
  cases bx
  · go_wp2_with fail
    go_ret
    exact ⟨rfl, hb1⟩
  go_wp2_with fail
  refine (HI.out.2.2 _ hb1).mono ?_
  rintro e w2 ⟨rfl, hb2⟩
  have hb := below_trans hb1 hb2
  clear hb1 hb2 HI
  cases bz
  · go_wp2_with fail
    go_ret
    exact ⟨rfl, hb⟩
  have q0 := r0.later hb
  have q1 := r1.later hb
  have q2 := r2.later hb
  have q3 := r3.later hb
  clear r0 r1 r2 r3
  go_wp2_with fail
  refine (clone_any q0 (by have := HL.out; omega)).mono ?_
  rintro e w3 ⟨v0, rfl, p0, hb3⟩
  go_wp2_with fail
  refine (clone_any (q1.later hb3) (by have := HL.out; omega)).mono ?_
  rintro e w4 ⟨v1, rfl, p1, hb4⟩
  go_wp2_with fail
  refine (clone_any ((q2.later hb3).later hb4) (by have := HL.out; omega)).mono ?_
  rintro e w5 ⟨v2, rfl, p2, hb5⟩
  go_wp2_with fail
  refine (clone_any (((q3.later hb3).later hb4).later hb5) (by have := HL.out; omega)).mono ?_
  rintro e w6 ⟨v3, rfl, p3, hb6⟩
  have t0 := ((p0.later hb4).later hb5).later hb6
  have t1 := (p1.later hb5).later hb6
  have t2 := p2.later hb6
  have hbb := below_trans (below_trans (below_trans (below_trans hb hb3) hb4) hb5) hb6
  clear q0 q1 q2 q3 p0 p1 p2 hb hb3 hb4 hb5 hb6
  go_wp2_with fail
  refine (zzmeet_any t0 t1 t0 t1 (by have := HL.out; omega) (by have := HL.out; omega) (by have := HL.out; omega) (by have := HL.out; omega) (xs.zip ys) HE.out.1 (by have := HL.out; simp; omega)).mono ?_
  rintro e w7 ⟨s0, s1, rfl, g0, g1, hb7⟩
  rw [HE.out.2.1] at g0
  rw [HE.out.2.2] at g1
  go_wp2_with fail
  refine (same_any g0 (t0.later hb7) (by have := HL.out; omega)).mono ?_
  rintro e w8 ⟨rfl, hb8⟩
  go_wp2_with fail
  refine (same_any (g1.later hb8) ((t1.later hb7).later hb8) (by have := HL.out; omega)).mono ?_
  rintro e w9 ⟨rfl, hb9⟩
  have hb79 := below_trans (below_trans hb7 hb8) hb9
  have hbb9 := below_trans hbb hb79
  have y0 := t0.later hb79
  have y1 := t1.later hb79
  have y2 := t2.later hb79
  have y3 := p3.later hb79
  clear g0 g1 hb7 hb8 hb9 hb79 hbb t0 t1 t2 p3
  obtain ⟨M, hM⟩ : ∃ M, meetL (xs.length + zs.length) (xs.zip ys) (zs.zip us) = M := ⟨_, rfl⟩
  have hML : M.length ≤ n := by have := meetL_len (xs.length + zs.length) (xs.zip ys) (zs.zip us); rw [hM] at this; have := HL.out; simp at *; omega
  have hMA : meetL ((M.map Prod.fst).length + zs.length) ((M.map Prod.fst).zip (M.map Prod.snd)) (zs.zip us) = M := by
    rw [zipped, ← hM]
    refine meetL_absorb _ _ _ (pairwise_of_rising zs us (by have := HL.out; omega) (fun j hj => risingB_spec HB.out j hj)) _ ?_
    rw [hM]; have := HL.out; simp; omega
  have HMM : Hid (meetL (xs.length + zs.length) (xs.zip ys) (zs.zip us) = M ∧ meetL ((M.map Prod.fst).length + zs.length) ((M.map Prod.fst).zip (M.map Prod.snd)) (zs.zip us) = M) := ⟨hM, hMA⟩
  clear hM hMA
  go_wp2_with fail
  refine (zzmeet_any y0 y1 y2 y3 (by have := HL.out; omega) (by have := HL.out; omega) (by have := HL.out; omega) (by have := HL.out; omega) M HMM.out.1 (by omega)).mono ?_
  rintro e w10 ⟨m0, m1, rfl, g0, g1, hb10⟩
  go_wp2_with fail
  refine (zzmeet_any g0 g1 (y2.later hb10) (y3.later hb10) (by simp) (by have := HL.out; omega) (by simp; omega) (by have := HL.out; omega) M HMM.out.2 (by omega)).mono ?_
  rintro e w11 ⟨k0, k1, rfl, f0, f1, hb11⟩
  go_wp2_with fail
  refine (same_any f0 (g0.later hb11) (by simp; omega)).mono ?_
  rintro e w12 ⟨rfl, hb12⟩
  go_wp2_with fail
  refine (same_any (f1.later hb12) ((g1.later hb11).later hb12) (by simp; omega)).mono ?_
  rintro e w13 ⟨rfl, hb13⟩
  go_wp2_with fail
  go_ret
  exact ⟨rfl, below_trans (below_trans (below_trans (below_trans hbb9 hb10) hb11) hb12) hb13⟩
end Go.Proofs.Qxb6603805a.fnMeetIdempotentAndAbsorbing
