import Derived.Test.Qxb6603401aSameR
import Derived.Test.Qxb6603401aGrowT
import Derived.Test.Qxb6603401aEndW
namespace Go.Proofs.Qxb6603401a
open Go Go.RowKit Go.Deep
set_option linter.unusedSimpArgs false
set_option linter.unusedVariables false

theorem zz_grow {tb n i : Nat} {w : World} {Q : Nat → World → Prop} (h : Calls Try.prog 51 #[.pointer (some ⟨tb, 0, none⟩), ptr n, .int .i64 (i : Nat)] w fun e w' => ∃ r, e = .returned (ptr r) ∧ Q r w') :
    Calls Try.prog 41 #[.pointer (some ⟨tb, 0, none⟩), ptr n, .int .i64 (i : Nat)] w fun e w' => ∃ r, e = .returned (ptr r) ∧ Q r w' := by
  unfold ptr at *
  go_enter Try.func41, Try.ntmps41
  go_wp2_with fail
  refine h.mono ?_
  rintro e w1 ⟨r, rfl, hQ⟩
  have HQ : Hid (Q r w1) := hQ
  clear hQ
  go_wp2_with fail
  go_ret
  exact ⟨r, rfl, HQ.out⟩

theorem eql_same (a : Addr) (w : World) : (binOp .eql 30 (.pointer (some a)) (.pointer (some a))).run Try.prog w = .ok (.bool true) w := by
  obtain ⟨j, hj, _⟩ := info_some79
  exact run_eql_ptr_same w a Try.underlying30 hj
theorem hdr_block {w : World} {b : Nat} {nd : Nd} (h : NodeAt w b nd) : ∃ c T, w.heap[b + 1]? = some (.cells c T (0, 0)) := by
  have hm : b + 1 ∈ nd.blocks b := by
    unfold Nd.blocks
    split <;> simp
  obtain ⟨c, T, h1, _⟩ := h.types _ hm
  exact ⟨c, T, h1⟩
theorem eql_other {w : World} {a b : Nat} {na nb : Nd} (ha : NodeAt w a na) (hb : NodeAt w b nb) (h : a ≠ b) : (binOp .eql 30 (.pointer (some ⟨a + 1, 0, none⟩)) (.pointer (some ⟨b + 1, 0, none⟩))).run Try.prog w = .ok (.bool false) w := by
  obtain ⟨j, hj, hz⟩ := info_some79
  obtain ⟨ca, ta, h1⟩ := hdr_block ha
  obtain ⟨cb, tb, h2⟩ := hdr_block hb
  exact run_eql_ptr_other w Try.underlying30 hj hz (by simp [h]) h1 h2

set_option maxHeartbeats 2000000 in
/-- childIndex: the place of a child. -/
theorem child_index (b B : Nat) (its : List It) (ks : List Nat) (σ : Store) (w : World) (k c : Nat) (he : Env noKeep B σ w) (hI : σ b = some ⟨its, some ks⟩) (hks : ks.length ≤ 32) (hk : ks[k]? = some c) (hne : ∀ j x, j < k → ks[j]? = some x → x ≠ c) (hin : ∀ x ∈ ks, σ x ≠ none) :
    Calls Try.prog 42 #[ptr b, ptr c] w fun e w' => e = .returned (.int .i64 (k : Nat)) ∧ w = w' := by
  have hN := he.rep b _ hI
  have hkh : w.cell? ⟨b + 1, 2, none⟩ = some (.slice (some ⟨b + 2, 0, none⟩) ks.length 32) := hN.khdr
  have A36 := acc36 b _ _ _ w hkh
  have A37 := acc37 b _ _ _ w hkh
  simp only [Option.isNone] at A36
  have hkl := (List.getElem?_eq_some_iff.1 hk).1
  have hesm := eql_same
  have HH : Hid (∀ j x, ks[j]? = some x → (Calls Try.prog 38 #[ptr b, .int .i64 (j : Nat)] w fun e w' => e = .returned (ptr x) ∧ w = w') ∧ (x ≠ c → (binOp .eql 30 (.pointer (some ⟨x + 1, 0, none⟩)) (.pointer (some ⟨c + 1, 0, none⟩))).run Try.prog w = .ok (.bool false) w)) := fun j x hj => by
    obtain ⟨hl, e⟩ := List.getElem?_eq_some_iff.1 hj
    have h1 : w.cell? ⟨b + 2, j, none⟩ = some (ptr ks[j]) := hN.kid rfl hl
    rw [e] at h1
    refine ⟨acc38 b j ks.length _ w hkh hl h1, fun hxc => ?_⟩
    obtain ⟨nx, hx⟩ := Option.ne_none_iff_exists'.1 (hin x (List.mem_of_getElem? hj))
    obtain ⟨nc, hc⟩ := Option.ne_none_iff_exists'.1 (hin c (List.mem_of_getElem? hk))
    exact eql_other (he.rep _ _ hx) (he.rep _ _ hc) hxc
  have HNE : Hid ((∀ j x, j < k → ks[j]? = some x → x ≠ c) ∧ ks[k]? = some c) := ⟨hne, hk⟩
  clear hN hkh he hI hne hin hk
  generalize hnn : ks.length = n at *
  have HN : Hid (ks.length = n) := hnn
  clear hnn
  unfold ptr at *
  go_enter Try.func42, Try.ntmps42
  go_wp2_with fail
  refine A36.mono ?_
  rintro e w1 ⟨rfl, rfl⟩
  go_wp2_with fail
  refine A37.mono ?_
  rintro e w1 ⟨rfl, rfl⟩
  clear A36 A37
  go_wp2_with fail
  go_loopg [6] n (fun gg i wr => ∃ j : Nat, j ≤ k ∧ gg = n - j ∧ i = .int .i64 j ∧ w = wr)
  case atStart => exact ⟨0, by omega, by omega, rfl, rfl⟩
  case round =>
    obtain ⟨j, hj, hgg, rfl, rfl⟩ := hrel
    have HG : Hid (gk = n - j) := hgg
    clear hgg
    have zj : (0 : Int) ≤ (j : Int) := Int.natCast_nonneg _
    have zj2 : (j : Int) < (n : Int) := by omega
    obtain ⟨x, hx⟩ : ∃ x, ks[j]? = some x := ⟨_, List.getElem?_eq_getElem (by rw [HN.out]; omega)⟩
    have A38 := (HH.out j x hx).1
    by_cases e : j = k
    · subst e
      have hxc : x = c := by
        have := HNE.out.2
        rw [hx] at this
        exact Option.some.inj this
      subst hxc
      clear hx
      go_wp2_with fail
      refine A38.mono ?_
      rintro e w1 ⟨rfl, rfl⟩
      go_wp2_with fail
      go_ret
      exact ⟨rfl, rfl⟩
    · have heq := (HH.out j x hx).2 (HNE.out.1 j x (by omega) hx)
      clear hx
      go_wp2_with fail
      refine A38.mono ?_
      rintro e w1 ⟨rfl, rfl⟩
      go_wp2_with fail
      go_roundg (n - (j + 1))
      case measure => have := HG.out; omega
      case rel => exact ⟨j + 1, by omega, rfl, by go_num, rfl⟩

/-- In a tree, a child's root stands at its place alone. -/
theorem kid_alone {d : Nat} {σ : Store} {n : Nat} {its : List It} {A C : List (Tr d)} {c : Tr d} (h : Has σ (node n its (A ++ c :: C))) :
    ((A ++ c :: C).map Tr.root)[A.length]? = some c.root ∧ (∀ j x, j < A.length → ((A ++ c :: C).map Tr.root)[j]? = some x → x ≠ c.root) ∧ ∀ x ∈ (A ++ c :: C).map Tr.root, σ x ≠ none := by
  have hnd : (n :: ((A ++ c :: C).flatMap Tr.ids)).Nodup := h.once
  have hin : σ n = some ⟨its, some ((A ++ c :: C).map Tr.root)⟩ ∧ ∀ k ∈ A ++ c :: C, Tr.In σ k := h.here
  refine ⟨by simp, fun j x hj hx e => ?_, fun x hx => ?_⟩
  · rw [List.getElem?_map, List.getElem?_append_left hj, List.getElem?_eq_getElem hj, Option.map_some, Option.some.injEq] at hx
    have h1 : A[j].root ∈ A.flatMap Tr.ids := List.mem_flatMap.2 ⟨A[j], List.getElem_mem hj, A[j].root_mem⟩
    rw [List.nodup_cons, List.flatMap_append, List.flatMap_cons] at hnd
    have h2 := (List.nodup_append.1 hnd.2).2.2 _ h1 c.root (List.mem_append_left _ c.root_mem)
    exact h2 (hx.trans e)
  · obtain ⟨k, hk, rfl⟩ := List.mem_map.1 hx
    rw [(hin.2 k hk).in_root]
    simp
end Go.Proofs.Qxb6603401a
