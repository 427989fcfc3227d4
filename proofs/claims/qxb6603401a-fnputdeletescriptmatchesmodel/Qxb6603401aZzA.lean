import Derived.Test.Qxb6603401aArgsB
namespace Go.Proofs.Qxb6603401a
open Go Go.RowKit Go.Deep
set_option linter.unusedSimpArgs false
set_option linter.unusedVariables false

/-- It answers; if it says true, P holds. -/
def ZzOk (P : Prop) (e : Ending) : Prop := ∃ r, e = .returned (.bool r) ∧ (r = true → P)
theorem ZzOk.no {P : Prop} : ZzOk P (.returned (.bool false)) := ⟨_, rfl, fun h => by cases h⟩
theorem ZzOk.yes {P : Prop} (h : P) : ZzOk P (.returned (.bool true)) := ⟨_, rfl, fun _ => h⟩
theorem Lst.open {w : World} {a : Option Addr} {n c : Nat} {f : Nat → Value} (h : Lst w (.slice a n c) n f) : n = 0 ∨ ∃ b off, a = some ⟨b, off, none⟩ ∧ ∀ i, i < n → w.cell? ⟨b, off + i, none⟩ = some (f i) := by
  obtain ⟨a', c', e, h⟩ := h
  simp only [Value.slice.injEq, true_and] at e
  obtain ⟨rfl, rfl⟩ := e
  exact h

set_option maxHeartbeats 2000000 in
theorem zz22 {nk kc0 nv vc0 nd dc : Nat} {ka va da : Option Addr} {K : Nat → ByteArray} {A : Nat → Option Addr} {L C : Nat → Nat} {w : World} (hk : Lst w (.slice ka nk kc0) nk (fun i => .string (K i))) (hv : Lst w (.slice va nv vc0) nv (fun i => .slice (A i) (L i) (C i))) :
    Calls Try.prog 22 #[.slice ka nk kc0, .slice va nv vc0, .slice da nd dc] w fun e w' => w = w' ∧ ZzOk ((∀ i, i < nk → (K i).size ≤ 1048576) ∧ (∀ i, i < nv → L i ≤ 1048576)) e := by
  replace hk := hk.open
  replace hv := hv.open
  have HK : Hid (nk = 0 ∨ ∃ b off, ka = some ⟨b, off, none⟩ ∧ ∀ i, i < nk → w.cell? ⟨b, off + i, none⟩ = some (.string (K i))) := hk
  have HV : Hid (nv = 0 ∨ ∃ b off, va = some ⟨b, off, none⟩ ∧ ∀ i, i < nv → w.cell? ⟨b, off + i, none⟩ = some (.slice (A i) (L i) (C i))) := hv
  clear hk hv
  go_enter Try.func22, Try.ntmps22
  by_cases n1 : nk ≤ 1048576
  rotate_left
  · go_wp2_with fail
    go_ret
    exact ⟨rfl, ZzOk.no⟩
  go_wp2_with fail
  go_loopg [7, 8] nk (fun gg t i wr => ∃ (k : Nat) (z : Int), k ≤ nk ∧ gg = nk - k ∧ t = .int .i64 z ∧ i = .int .i64 k ∧ 0 ≤ z ∧ z ≤ 1048576 ∧ (∀ j, j < k → (K j).size ≤ 1048576) ∧ w = wr)
  case atStart => exact ⟨0, nk, by omega, by omega, by first | rfl | go_num, rfl, by omega, by omega, fun j hj => by omega, rfl⟩
  case round =>
    obtain ⟨k, z, hk, hg, rfl, rfl, hz0, hz1, hal, rfl⟩ := hrel
    have HG : Hid (gk = nk - k) := hg
    have HA : Hid _ := hal
    clear hg hal
    by_cases hlt : k < nk
    · obtain e0 | ⟨b, off, rfl, hkc⟩ := HK.out
      · omega
      have h1 := hkc k hlt
      by_cases hsz : (K k).size ≤ 1048576
      rotate_left
      · go_wp2_with fail
        go_ret
        exact ⟨rfl, ZzOk.no⟩
      by_cases hto : z + ((K k).size : Int) ≤ 1048576
      rotate_left
      · go_wp2_with fail
        go_ret
        exact ⟨rfl, ZzOk.no⟩
      have HZ : Hid ((K k).size ≤ 1048576) := hsz
      go_wp2_with fail
      go_roundg (nk - (k + 1))
      case measure => have := HG.out; omega
      case rel =>
        refine ⟨k + 1, _, by omega, rfl, by go_num, rfl, by omega, hto, fun j hj => ?_, rfl⟩
        by_cases e : j = k
        · subst e; exact HZ.out
        · exact HA.out j (by omega)
    · obtain rfl : k = nk := by omega
      clear HG
      by_cases n2 : nv ≤ 1048576
      rotate_left
      · go_wp2_with fail
        go_ret
        exact ⟨rfl, ZzOk.no⟩
      by_cases n3 : z + (nv : Int) ≤ 1048576
      rotate_left
      · go_wp2_with fail
        go_ret
        exact ⟨rfl, ZzOk.no⟩
      have HA1 : Hid (∀ i, i < k → (K i).size ≤ 1048576) := HA.out
      go_wp2_with fail
      go_loopg [7, 9] nv (fun gg t i wr => ∃ (k : Nat) (z : Int), k ≤ nv ∧ gg = nv - k ∧ t = .int .i64 z ∧ i = .int .i64 k ∧ 0 ≤ z ∧ z ≤ 1048576 ∧ (∀ j, j < k → L j ≤ 1048576) ∧ w = wr)
      case atStart => exact ⟨0, z + nv, by omega, by omega, by first | rfl | go_num, rfl, by omega, by omega, fun j hj => by omega, rfl⟩
      case round =>
        clear hz0 hz1 n2 n3 hlt hk
        obtain ⟨k, z, hk, hg, rfl, rfl, hz0, hz1, hal, rfl⟩ := hrel
        have HG : Hid (gk = nv - k) := hg
        have HA : Hid _ := hal
        clear hg hal
        by_cases hlt : k < nv
        · obtain e0 | ⟨b, off, rfl, hvc⟩ := HV.out
          · omega
          have h1 := hvc k hlt
          by_cases hsz : L k ≤ 1048576
          rotate_left
          · go_wp2_with fail
            go_ret
            exact ⟨rfl, ZzOk.no⟩
          by_cases hto : z + (L k : Int) ≤ 1048576
          rotate_left
          · go_wp2_with fail
            go_ret
            exact ⟨rfl, ZzOk.no⟩
          have HZ : Hid (L k ≤ 1048576) := hsz
          go_wp2_with fail
          go_roundg (nv - (k + 1))
          case measure => have := HG.out; omega
          case rel =>
            refine ⟨k + 1, _, by omega, rfl, by go_num, rfl, by omega, hto, fun j hj => ?_, rfl⟩
            by_cases e : j = k
            · subst e; exact HZ.out
            · exact HA.out j (by omega)
        · obtain rfl : k = nv := by omega
          by_cases n4 : nd ≤ 1048576
          rotate_left
          · go_wp2_with fail
            go_ret
            exact ⟨rfl, ZzOk.no⟩
          by_cases n5 : z + (nd : Int) ≤ 1048576
          rotate_left
          · go_wp2_with fail
            go_ret
            exact ⟨rfl, ZzOk.no⟩
          go_wp2_with fail
          go_ret
          exact ⟨rfl, ZzOk.yes ⟨HA1.out, HA.out⟩⟩

set_option maxHeartbeats 2000000 in
theorem too_big {nk kc0 nv vc0 nd dc : Nat} {ka va da : Option Addr} {K : Nat → ByteArray} {A : Nat → Option Addr} {L C : Nat → Nat} {w : World} (hk : Lst w (.slice ka nk kc0) nk (fun i => .string (K i))) (hv : Lst w (.slice va nv vc0) nv (fun i => .slice (A i) (L i) (C i)))
    (n1 : nk ≤ 4096) (n2 : nv ≤ 4096) (n3 : nd ≤ 4096) (x : Nat) (hx : x ≤ 2097152) (hks : ∀ i, i < nk → (K i).size ≤ 1048576) (hvs : ∀ i, i < nv → L i ≤ 1048576) :
    Calls Try.prog 10 #[.slice ka nk kc0, .slice va nv vc0, .slice da nd dc, .int .i64 x] w fun e w' => w = w' ∧ ZzOk True e := by
  replace hk := hk.open
  replace hv := hv.open
  have HK : Hid (nk = 0 ∨ ∃ b off, ka = some ⟨b, off, none⟩ ∧ ∀ i, i < nk → w.cell? ⟨b, off + i, none⟩ = some (.string (K i))) := hk
  have HV : Hid (nv = 0 ∨ ∃ b off, va = some ⟨b, off, none⟩ ∧ ∀ i, i < nv → w.cell? ⟨b, off + i, none⟩ = some (.slice (A i) (L i) (C i))) := hv
  have HKS : Hid (∀ i, i < nk → (K i).size ≤ 1048576) := hks
  have HVS : Hid (∀ i, i < nv → L i ≤ 1048576) := hvs
  clear hk hv hks hvs
  go_enter Try.func10, Try.ntmps10
  by_cases m1 : x ≤ 1048576
  rotate_left
  · go_wp2_with fail
    go_ret
    exact ⟨rfl, ZzOk.yes trivial⟩
  by_cases m2 : (x : Int) + 16 * nk + 24 * nv + nd ≤ 1048576
  rotate_left
  · go_wp2_with fail
    go_ret
    exact ⟨rfl, ZzOk.yes trivial⟩
  go_wp2_with fail
  go_loopg [9, 10] nk (fun gg t i wr => ∃ (k : Nat) (z : Int), k ≤ nk ∧ gg = nk - k ∧ t = .int .i64 z ∧ i = .int .i64 k ∧ 0 ≤ z ∧ z ≤ 1048576 ∧ w = wr)
  case atStart => exact ⟨0, _, by omega, by omega, rfl, rfl, by omega, by omega, rfl⟩
  case round =>
    obtain ⟨k, z, hk, hg, rfl, rfl, hz0, hz1, rfl⟩ := hrel
    have HG : Hid (gk = nk - k) := hg
    clear hg
    by_cases hlt : k < nk
    · obtain e0 | ⟨b, off, rfl, hkc⟩ := HK.out
      · omega
      have hsz := HKS.out k hlt
      have h1 := hkc k hlt
      by_cases hto : z + ((K k).size : Int) ≤ 1048576
      rotate_left
      · go_wp2_with fail
        go_ret
        exact ⟨rfl, ZzOk.yes trivial⟩
      go_wp2_with fail
      go_roundg (nk - (k + 1))
      case measure => have := HG.out; omega
      case rel => exact ⟨k + 1, _, by omega, rfl, by go_num, rfl, by omega, hto, rfl⟩
    · obtain rfl : k = nk := by omega
      clear HG
      go_wp2_with fail
      go_loopg [9, 11] nv (fun gg t i wr => ∃ (k : Nat) (z : Int), k ≤ nv ∧ gg = nv - k ∧ t = .int .i64 z ∧ i = .int .i64 k ∧ 0 ≤ z ∧ z ≤ 1048576 ∧ w = wr)
      case atStart => exact ⟨0, _, by omega, by omega, rfl, rfl, by omega, by omega, rfl⟩
      case round =>
        clear hz0 hz1 hlt hk
        obtain ⟨k, z, hk, hg, rfl, rfl, hz0, hz1, rfl⟩ := hrel
        have HG : Hid (gk = nv - k) := hg
        clear hg
        by_cases hlt : k < nv
        · obtain e0 | ⟨b, off, rfl, hvc⟩ := HV.out
          · omega
          have hsz := HVS.out k hlt
          have h1 := hvc k hlt
          by_cases hto : z + (L k : Int) ≤ 1048576
          rotate_left
          · go_wp2_with fail
            go_ret
            exact ⟨rfl, ZzOk.yes trivial⟩
          go_wp2_with fail
          go_roundg (nv - (k + 1))
          case measure => have := HG.out; omega
          case rel => exact ⟨k + 1, _, by omega, rfl, by go_num, rfl, by omega, hto, rfl⟩
        · obtain rfl : k = nv := by omega
          go_wp2_with fail
          go_ret
          exact ⟨rfl, ZzOk.no⟩
end Go.Proofs.Qxb6603401a
