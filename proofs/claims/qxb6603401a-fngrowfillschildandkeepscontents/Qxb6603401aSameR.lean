import Derived.Test.Qxb6603401aDumpT
namespace Go.Proofs.Qxb6603401a
open Go Go.RowKit Go.Deep
set_option linter.unusedSimpArgs false
set_option linter.unusedVariables false

theorem info_some79 : ∃ j, Try.prog.info? 79 = some j ∧ j.size ≠ 0 := by
  have h : (Try.prog.info? 79).map (fun i => decide (i.size ≠ 0)) = some true := by kernel_rfl
  cases e : Try.prog.info? 79 with
  | none => rw [e] at h; cases h
  | some j =>
    rw [e] at h
    simp only [Option.map_some, Option.some.injEq, decide_eq_true_eq] at h
    exact ⟨j, rfl, h⟩
theorem neq_same (a : Addr) (w : World) : (binOp .neq 30 (.pointer (some a)) (.pointer (some a))).run Try.prog w = .ok (.bool false) w := by
  obtain ⟨j, hj, _⟩ := info_some79
  have h : ∀ d : Nat, (Op.equalIn (d + 1) 30 (.pointer (some a)) (.pointer (some a))).run Try.prog w = .ok true w := fun d => by
    simp [Op.equalIn, run_underlying Try.underlying30, sizeOf, typeInfo, hj, run_sameAddr_same]
  simp only [binOp]
  simp [Op.equal, Op.maxDepth, h 9999]
theorem RowsAt.cell {E : Nat} {w : World} {g n cap : Nat} {rs : List Rw} (h : RowsAt E w (.slice (some ⟨g, 0, none⟩) n cap) rs) (hn : rs.length = n) {i : Nat} {r : Rw} (hi : rs[i]? = some r) (j : Nat) (hj : j < 8) {u : Value} (hu : r.cells[j]? = some u) : w.cell? ⟨g, i * 8 + j, none⟩ = some u := by
  subst hn
  have hl := (List.getElem?_eq_some_iff.1 hi).1
  rw [World.ownsRow.cellAt h (i * 8 + j) (by omega), rflat_get rs i r hi j hj, hu]

set_option maxHeartbeats 8000000 in
set_option maxRecDepth 100000 in
theorem same_rows {E1 E2 : Nat} {v1 v2 : Value} {rs : List Rw} {w : World} (h1 : RowsAt E1 w v1 rs) (h2 : RowsAt E2 w v2 rs) (hr : RdR w rs) (hn : rs.length ≤ 1048576) :
    Calls Try.prog 32 #[v1, v2] w fun e w' => e = .returned (.bool true) ∧ Chg [] w w' := by
  by_cases h0 : rs = []
  · subst h0
    obtain ⟨a1, c1, rfl⟩ : ∃ a c, v1 = .slice a 0 c := by
      rcases h1.forms with ⟨rfl, _⟩ | ⟨g, cap, rfl, _⟩
      · exact ⟨_, _, rfl⟩
      · exact ⟨_, _, rfl⟩
    obtain ⟨a2, c2, rfl⟩ : ∃ a c, v2 = .slice a 0 c := by
      rcases h2.forms with ⟨rfl, _⟩ | ⟨g, cap, rfl, _⟩
      · exact ⟨_, _, rfl⟩
      · exact ⟨_, _, rfl⟩
    clear h1 h2 hr hn
    go_enter Try.func32, Try.ntmps32
    go_wp2
    refine wp_loop_rounds 1 ?_
    rw [rounds_succ]
    go_wp2
    go_ret
    exact ⟨rfl, Chg.refl _ _⟩
  rcases h1.forms with ⟨_, h⟩ | ⟨g1, cap1, rfl, hB1, hg1⟩
  · exact absurd h h0
  rcases h2.forms with ⟨_, h⟩ | ⟨g2, cap2, rfl, hB2, hg2⟩
  · exact absurd h h0
  have HC : Hid ((∀ i r, rs[i]? = some r → ∀ j, j < 8 → ∀ u, r.cells[j]? = some u → w.cell? ⟨g1, i * 8 + j, none⟩ = some u) ∧ (∀ i r, rs[i]? = some r → ∀ j, j < 8 → ∀ u, r.cells[j]? = some u → w.cell? ⟨g2, i * 8 + j, none⟩ = some u) ∧ RdR w rs) :=
    ⟨fun i r hi j hj u hu => h1.cell rfl hi j hj hu, fun i r hi j hj u hu => h2.cell rfl hi j hj hu, hr⟩
  clear h1 h2 hr h0
  have hng := neq_same
  generalize hnn : rs.length = n at *
  have HN : Hid (rs.length = n) := hnn
  clear hnn
  go_enter Try.func32, Try.ntmps32
  go_wp2
  go_loopg [5] n (fun gg i wr => ∃ k : Nat, k ≤ n ∧ gg = n - k ∧ i = .int .i64 k ∧ Chg [] w wr)
  case atStart => exact ⟨0, by omega, by omega, rfl, Chg.refl _ _⟩
  case round =>
    obtain ⟨k, hk, hgg, rfl, hch⟩ := hrel
    have HG : Hid (gk = n - k) := hgg
    have HCH : Hid (Chg [] w wr) := hch
    clear hgg
    by_cases hlt : k < n
    · obtain ⟨r, hx⟩ : ∃ r, rs[k]? = some r := ⟨_, List.getElem?_eq_getElem (by rw [HN.out]; exact hlt)⟩
      have hrx := HC.out.2.2 r (List.mem_of_getElem? hx)
      have ha := HC.out.1 k r hx
      have hb := HC.out.2.1 k r hx
      obtain ⟨rn, rd, ri, rc, rk, rl, ry, ra, rm, rq⟩ := r
      unfold Rw.cells ptr at ha hb
      simp only at ha hb hrx
      have a0 := hch.cell (ha 0 (by decide) _ rfl) (by simp)
      have a1 := hch.cell (ha 1 (by decide) _ rfl) (by simp)
      have a2 := hch.cell (ha 2 (by decide) _ rfl) (by simp)
      have a3 := hch.cell (ha 3 (by decide) _ rfl) (by simp)
      have a4 := hch.cell (ha 4 (by decide) _ rfl) (by simp)
      have a5 := hch.cell (ha 5 (by decide) _ rfl) (by simp)
      have a6 := hch.cell (ha 6 (by decide) _ rfl) (by simp)
      have a7 := hch.cell (ha 7 (by decide) _ rfl) (by simp)
      have b0 := hch.cell (hb 0 (by decide) _ rfl) (by simp)
      have b1 := hch.cell (hb 1 (by decide) _ rfl) (by simp)
      have b2 := hch.cell (hb 2 (by decide) _ rfl) (by simp)
      have b3 := hch.cell (hb 3 (by decide) _ rfl) (by simp)
      have b4 := hch.cell (hb 4 (by decide) _ rfl) (by simp)
      have b5 := hch.cell (hb 5 (by decide) _ rfl) (by simp)
      have b6 := hch.cell (hb 6 (by decide) _ rfl) (by simp)
      have b7 := hch.cell (hb 7 (by decide) _ rfl) (by simp)
      simp only [Nat.add_zero] at a0 b0
      have lg1 : g1 < wr.heap.size := World.block_lt_of_cell? wr _ a0
      have lg2 : g2 < wr.heap.size := World.block_lt_of_cell? wr _ b0
      have z1 : (0 : Int) ≤ (k : Int) := Int.natCast_nonneg _
      have z2 : (k : Int) < (n : Int) := by omega
      have HSB : Hid (∀ W, Chg [] wr W → Calls Try.prog 28 #[.slice ra rm rq, .slice ra rm rq] W fun e w' => e = .returned (.bool true) ∧ Chg [] W w') := fun W hW => same_bytes ((hrx.2.chg HCH.out).chg hW) hrx.1
      clear ha hb hx hrx hch
      go_wp2_with fail
      refine (HSB.out _ (((Chg.refl _ _).alloc _).alloc _)).mono ?_
      rintro e w6 ⟨rfl, hc6⟩
      have HCX : Hid (Chg [] w w6) := (HCH.out.trans (((Chg.refl _ _).alloc _).alloc _)).trans hc6
      clear hc6 a0 a1 a2 a3 a4 a5 a6 a7 b0 b1 b2 b3 b4 b5 b6 b7
      go_wp2_with fail
      go_roundg (n - (k + 1))
      case measure => have := HG.out; omega
      case rel => exact ⟨k + 1, by omega, rfl, by go_num, HCX.out⟩
    · obtain rfl : k = n := by omega
      clear hch
      go_wp2
      go_ret
      exact ⟨rfl, HCH.out⟩
end Go.Proofs.Qxb6603401a
