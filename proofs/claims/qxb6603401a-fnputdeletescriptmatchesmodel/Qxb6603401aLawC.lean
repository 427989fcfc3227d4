import Derived.Test.Qxb6603401aSort
import Derived.Test.Qxb6603401aLawF
namespace Go.Proofs.Qxb6603401a
open Go Go.RowKit Go.Deep
set_option linter.unusedSimpArgs false
set_option linter.unusedVariables false

set_option maxHeartbeats 2000000 in
theorem zz9 {nk kc0 nv vc0 nd dc : Nat} {ka va da : Option Addr} {K : Nat → ByteArray} {A : Nat → Option Addr} {L C : Nat → Nat} {w : World} (hk : Lst w (.slice ka nk kc0) nk (fun i => .string (K i))) (hv : Lst w (.slice va nv vc0) nv (fun i => .slice (A i) (L i) (C i))) :
    Calls Try.prog 9 #[.slice ka nk kc0, .slice va nv vc0, .slice da nd dc] w fun e w' => w = w' ∧ ZzOk ((∀ i, i < nk → (K i).size ≤ 1048576) ∧ (∀ i, i < nv → L i ≤ 1048576)) e := by
  replace hk := hk.open
  replace hv := hv.open
  have HK : Hid (nk = 0 ∨ ∃ b off, ka = some ⟨b, off, none⟩ ∧ ∀ i, i < nk → w.cell? ⟨b, off + i, none⟩ = some (.string (K i))) := hk
  have HV : Hid (nv = 0 ∨ ∃ b off, va = some ⟨b, off, none⟩ ∧ ∀ i, i < nv → w.cell? ⟨b, off + i, none⟩ = some (.slice (A i) (L i) (C i))) := hv
  clear hk hv
  go_enter Try.func9, Try.ntmps9
  by_cases n1 : nk ≤ 1048576
  rotate_left
  · go_wp2_with fail
    go_ret
    exact ⟨rfl, ZzOk.no⟩
  go_wp2_with fail
  go_loopg [7, 8] nk (fun gg t i wr => ∃ (k : Nat) (z : Int), k ≤ nk ∧ gg = nk - k ∧ t = .int .i64 z ∧ i = .int .i64 k ∧ 0 ≤ z ∧ z ≤ 1048576 ∧ (∀ j, j < k → (K j).size ≤ 1048576) ∧ w = wr)
  case atStart => exact ⟨0, nk, by omega, by omega, by first | rfl | go_num, rfl, by omega, by omega, fun j hj => by omega, rfl⟩
  case round =>
    obtain ⟨k, z, hk, hg, rfl, rfl, hz0, hz1, hal, rfl⟩ := hrel
    have HG : Hid (gk = nk - k) := hg
    have HA : Hid _ := hal
    clear hg hal
    by_cases hlt : k < nk
    · obtain e0 | ⟨b, off, rfl, hkc⟩ := HK.out
      · omega
      have h1 := hkc k hlt
      by_cases hsz : (K k).size ≤ 1048576
      rotate_left
      · go_wp2_with fail
        go_ret
        exact ⟨rfl, ZzOk.no⟩
      by_cases hto : z + ((K k).size : Int) ≤ 1048576
      rotate_left
      · go_wp2_with fail
        go_ret
        exact ⟨rfl, ZzOk.no⟩
      have HZ : Hid ((K k).size ≤ 1048576) := hsz
      go_wp2_with fail
      go_roundg (nk - (k + 1))
      case measure => have := HG.out; omega
      case rel =>
        refine ⟨k + 1, _, by omega, rfl, by go_num, rfl, by omega, hto, fun j hj => ?_, rfl⟩
        by_cases e : j = k
        · subst e; exact HZ.out
        · exact HA.out j (by omega)
    · obtain rfl : k = nk := by omega
      clear HG
      by_cases n2 : nv ≤ 1048576
      rotate_left
      · go_wp2_with fail
        go_ret
        exact ⟨rfl, ZzOk.no⟩
      by_cases n3 : z + (nv : Int) ≤ 1048576
      rotate_left
      · go_wp2_with fail
        go_ret
        exact ⟨rfl, ZzOk.no⟩
      have HA1 : Hid (∀ i, i < k → (K i).size ≤ 1048576) := HA.out
      go_wp2_with fail
      go_loopg [7, 9] nv (fun gg t i wr => ∃ (k : Nat) (z : Int), k ≤ nv ∧ gg = nv - k ∧ t = .int .i64 z ∧ i = .int .i64 k ∧ 0 ≤ z ∧ z ≤ 1048576 ∧ (∀ j, j < k → L j ≤ 1048576) ∧ w = wr)
      case atStart => exact ⟨0, z + nv, by omega, by omega, by first | rfl | go_num, rfl, by omega, by omega, fun j hj => by omega, rfl⟩
      case round =>
        clear hz0 hz1 n2 n3 hlt hk
        obtain ⟨k, z, hk, hg, rfl, rfl, hz0, hz1, hal, rfl⟩ := hrel
        have HG : Hid (gk = nv - k) := hg
        have HA : Hid _ := hal
        clear hg hal
        by_cases hlt : k < nv
        · obtain e0 | ⟨b, off, rfl, hvc⟩ := HV.out
          · omega
          have h1 := hvc k hlt
          by_cases hsz : L k ≤ 1048576
          rotate_left
          · go_wp2_with fail
            go_ret
            exact ⟨rfl, ZzOk.no⟩
          by_cases hto : z + (L k : Int) ≤ 1048576
          rotate_left
          · go_wp2_with fail
            go_ret
            exact ⟨rfl, ZzOk.no⟩
          have HZ : Hid (L k ≤ 1048576) := hsz
          go_wp2_with fail
          go_roundg (nv - (k + 1))
          case measure => have := HG.out; omega
          case rel =>
            refine ⟨k + 1, _, by omega, rfl, by go_num, rfl, by omega, hto, fun j hj => ?_, rfl⟩
            by_cases e : j = k
            · subst e; exact HZ.out
            · exact HA.out j (by omega)
        · obtain rfl : k = nv := by omega
          by_cases n4 : nd ≤ 1048576
          rotate_left
          · go_wp2_with fail
            go_ret
            exact ⟨rfl, ZzOk.no⟩
          by_cases n5 : z + (nd : Int) ≤ 1048576
          rotate_left
          · go_wp2_with fail
            go_ret
            exact ⟨rfl, ZzOk.no⟩
          go_wp2_with fail
          go_ret
          exact ⟨rfl, ZzOk.yes ⟨HA1.out, HA.out⟩⟩

theorem sizeL_take {ml : List It} {k : Nat} {x : It} (h : ml[k]? = some x) : sizeL (ml.take (k + 1)) = sizeL (ml.take k) + x.key.size + x.vn := by
  obtain ⟨hl, rfl⟩ := List.getElem?_eq_some_iff.1 h
  rw [List.take_succ_eq_append_getElem hl, sizeL_append]
  simp [sizeL]
  omega
theorem sizeL_take_le (ml : List It) (k : Nat) : sizeL (ml.take k) ≤ sizeL ml := by
  have : sizeL ml = sizeL (ml.take k) + sizeL (ml.drop k) := by rw [← sizeL_append, List.take_append_drop]
  omega
set_option maxHeartbeats 2000000 in
theorem model_bytes {B : Nat} {v : Value} {ml : List It} {w : World} (h : EsAt B w v ml) (hn : ml.length ≤ 1048576) (hs : sizeL ml ≤ 1099511627776) :
    Calls Try.prog 20 #[v] w fun e w' => e = .returned (.int .i64 (sizeL ml : Nat)) ∧ Chg [] w w' := by
  rcases h.forms with ⟨rfl, rfl⟩ | ⟨g, cap, rfl, hB, hg⟩
  · go_enter Try.func20, Try.ntmps20
    go_wp2
    refine wp_loop_rounds 1 ?_
    rw [rounds_succ]
    go_wp2
    go_ret
    exact ⟨rfl, Chg.refl _ _⟩
  · have HC : Hid (∀ i x, ml[i]? = some x → w.cell? ⟨g, i * 2, none⟩ = some (.string x.key) ∧ w.cell? ⟨g, i * 2 + 1, none⟩ = some (.slice x.va x.vn x.vc)) := fun i x hi => ⟨h.cellK' rfl hi, h.cellV' rfl hi⟩
    clear h
    have HSL : Hid (sizeL ml ≤ 1099511627776) := hs
    clear hs
    generalize hnn : ml.length = n at *
    have HN : Hid (ml.length = n) := hnn
    clear hnn
    go_enter Try.func20, Try.ntmps20
    go_wp2
    go_loopg [3, 4] n (fun gg t i wr => ∃ k : Nat, k ≤ n ∧ gg = n - k ∧ t = .int .i64 (sizeL (ml.take k) : Nat) ∧ i = .int .i64 k ∧ Chg [] w wr)
    case atStart => exact ⟨0, by omega, by omega, rfl, rfl, Chg.refl _ _⟩
    case round =>
      obtain ⟨k, hk, hgg, rfl, rfl, hch⟩ := hrel
      have HG : Hid (gk = n - k) := hgg
      have HCH : Hid (Chg [] w wr) := hch
      clear hgg
      have zk : (0 : Int) ≤ (k : Int) := Int.natCast_nonneg _
      by_cases hlt : k < n
      · obtain ⟨x, hx⟩ : ∃ x, ml[k]? = some x := ⟨_, List.getElem?_eq_getElem (by rw [HN.out]; exact hlt)⟩
        have h1 := hch.cell (HC.out k x hx).1 (by simp)
        have h2 := hch.cell (HC.out k x hx).2 (by simp)
        have hst := sizeL_take hx
        have hle := sizeL_take_le ml (k + 1)
        have HST : Hid (sizeL (ml.take (k + 1)) = sizeL (ml.take k) + x.key.size + x.vn) := hst
        have hbd : sizeL (ml.take k) + x.key.size + x.vn ≤ 1099511627776 := by have := HSL.out; omega
        generalize sizeL (ml.take k) = S at *
        obtain ⟨xk, xa, xn, xc⟩ := x
        simp only at *
        clear hst hle hx hch
        have zk2 : (k : Int) < (n : Int) := by omega
        go_wp2
        go_quiet (fail)
        go_wp2
        go_roundg (n - (k + 1))
        case measure => have := HG.out; omega
        case rel => exact ⟨k + 1, by omega, rfl, by rw [HST.out]; go_num, by go_num, HCH.out.drewN _⟩
      · obtain rfl : k = n := by omega
        clear hch
        have HF : Hid (sizeL (ml.take k) = sizeL ml) := by
          show _ = _
          rw [List.take_of_length_le (by rw [HN.out]; omega)]
        go_wp2
        go_ret
        exact ⟨by rw [HF.out]; rfl, HCH.out⟩

set_option maxHeartbeats 2000000 in
theorem get_agrees {tb B : Nat} {v : Value} {es : List It} {w : World} (k : ByteArray) (ht : TreeAt noKeep tb w es) (h : EsAt B w v es) (hr : Rd w es) (hn : es.length ≤ 1048576) :
    Calls Try.prog 21 #[.pointer (some ⟨tb, 0, none⟩), v, .string k] w fun e w' => e = .returned (.bool true) ∧ Chg [] w w' := by
  have HGT := get_tree noKeep tb k w es ht
  obtain ⟨va, vn, vc, hv⟩ : ∃ a n c, v = .slice a n c := by
    rcases h.forms with ⟨rfl, _⟩ | ⟨g, cap, rfl, _⟩
    · exact ⟨_, _, _, rfl⟩
    · exact ⟨_, _, _, rfl⟩
  subst hv
  have HF : Hid (∀ W, Chg [] w W → Calls Try.prog 30 #[.slice va vn vc, .string k] W fun e w' => ((e = .returned (.int .i64 (-1)) ∧ ∀ x ∈ es, x.key ≠ k) ∨ ∃ (i : Nat) (x : It), e = .returned (.int .i64 i) ∧ es[i]? = some x ∧ x.key = k) ∧ W = w') := fun W hW => model_find k (h.chg hW (fun _ _ => by simp)) hn
  have HH : Hid (EsAt B w (.slice va vn vc) es ∧ Sorted es ∧ Rd w es) := ⟨h, ht.sorted, hr⟩
  have hnil := fun (w : World) (a : Option Addr) (n c n' c' : Nat) => Lib.run_eql_slice_nil (P := Try.prog) w 48 5 a n c n' c' Try.underlying48
  clear ht h hr
  cases hlk : look k es with
  | none =>
    rw [hlk] at HGT
    simp only [foundVal, Option.elim, Option.isSome] at HGT
    have HLK : Hid (look k es = none) := hlk
    clear hlk
    go_enter Try.func21, Try.ntmps21
    go_wp2_with fail
    refine HGT.mono ?_
    rintro e w1 ⟨rfl, hc1⟩
    have HC1 : Hid (Chg [] w w1) := hc1
    clear hc1 HGT
    go_wp2_with fail
    refine (HF.out w1 HC1.out).mono ?_
    rintro e w2 ⟨⟨rfl, hno⟩ | ⟨i, x, rfl, hi, hk⟩, rfl⟩
    · clear hno
      go_wp2_with fail
      go_ret
      exact ⟨rfl, HC1.out⟩
    · exact absurd hk (look_absent HLK.out x (List.mem_of_getElem? hi))
  | some y =>
    obtain ⟨hym, hyk⟩ := look_some hlk
    rw [hlk] at HGT
    obtain ⟨yk, ya, yn, yc⟩ := y
    simp only at hyk
    simp only [foundVal, Option.elim, Option.isSome, It.val] at HGT
    have HSB : Hid (∀ W, Chg [] w W → Calls Try.prog 28 #[.slice ya yn yc, .slice ya yn yc] W fun e w' => e = .returned (.bool true) ∧ Chg [] W w') := fun W hW => same_bytes ((HH.out.2.2 _ hym).2.chg hW) (HH.out.2.2 _ hym).1
    have HLK : Hid (look k es = some ⟨yk, ya, yn, yc⟩ ∧ (⟨yk, ya, yn, yc⟩ : It) ∈ es ∧ yk = k) := ⟨hlk, hym, hyk⟩
    clear hlk hym hyk
    go_enter Try.func21, Try.ntmps21
    go_wp2_with fail
    refine HGT.mono ?_
    rintro e w1 ⟨rfl, hc1⟩
    have HC1 : Hid (Chg [] w w1) := hc1
    clear hc1 HGT
    go_wp2_with fail
    refine (HF.out w1 HC1.out).mono ?_
    rintro e w2 ⟨⟨rfl, hno⟩ | ⟨i, x, rfl, hi, hk⟩, rfl⟩
    · exact absurd HLK.out.2.2 (hno _ HLK.out.2.1)
    · have hxy : x = ⟨yk, ya, yn, yc⟩ := by
        have h1 := look_mem HH.out.2.1 (List.mem_of_getElem? hi)
        rw [hk, HLK.out.1] at h1
        exact (Option.some.inj h1).symm
      subst hxy
      have hil := (List.getElem?_eq_some_iff.1 hi).1
      have hes1 := HH.out.1.chg HC1.out (fun _ _ => by simp)
      have hvn := hes1.len
      rcases hes1.forms with ⟨_, rfl⟩ | ⟨g, cap, e, hBg, hg⟩
      · simp at hil
      simp only [Value.slice.injEq] at e
      obtain ⟨rfl, rfl, rfl⟩ := e
      have hc := hes1.cellV' rfl hi
      simp only at hc
      clear hi hk hvn hes1
      have zi : (0 : Int) ≤ (i : Int) := Int.natCast_nonneg _
      generalize es.length = n at *
      have zi2 : (i : Int) < (n : Int) := by omega
      go_wp2_with fail
      refine (HSB.out w1 HC1.out).mono ?_
      rintro e w3 ⟨rfl, hc3⟩
      have HC3 : Hid (Chg [] w w3) := HC1.out.trans hc3
      clear hc3
      go_wp2_with fail
      go_ret
      exact ⟨rfl, HC3.out⟩

set_option maxHeartbeats 4000000 in
set_option maxRecDepth 100000 in
theorem law3 {kv vv dv : Value} {nk nv nd : Nat} {K : Nat → ByteArray} {A : Nat → Option Addr} {L C : Nat → Nat} {D : Nat → Bool} {w : World} (hk : Lst w kv nk (fun i => .string (K i))) (hv : Lst w vv nv (fun i => .slice (A i) (L i) (C i)))
    (hd : Lst w dv nd (fun i => .bool (D i))) (hby : ∀ i, i < nv → Byt w (A i) (L i) (C i)) :
    Calls Try.prog 3 #[kv, vv, dv] w fun e w' => e = .returned (.bool true) ∧ Below w.heap.size w w' := by
  obtain ⟨ka, kc0, rfl, hk0⟩ := hk
  obtain ⟨va, vc0, rfl, hv0⟩ := hv
  obtain ⟨da, dc, rfl, hd0⟩ := hd
  have hk : Lst w (.slice ka nk kc0) nk (fun i => .string (K i)) := ⟨_, _, rfl, hk0⟩
  have hv : Lst w (.slice va nv vc0) nv (fun i => .slice (A i) (L i) (C i)) := ⟨_, _, rfl, hv0⟩
  have hd : Lst w (.slice da nd dc) nd (fun i => .bool (D i)) := ⟨_, _, rfl, hd0⟩
  clear hk0 hv0 hd0
  have HZ := zz9 hk hv (da := da) (nd := nd) (dc := dc)
  go_enter Try.func3, Try.ntmps3
  go_wp2_with fail
  refine HZ.mono ?_
  rintro e w1 ⟨rfl, r, rfl, hr⟩
  cases r with
  | false =>
    go_wp2_with fail
    go_ret
    exact ⟨rfl, Below.refl _ _⟩
  | true =>
  obtain ⟨hks, hvs⟩ := hr rfl
  by_cases hn : nk ≤ 4096 ∧ nv ≤ 4096 ∧ nd ≤ 4096
  rotate_left
  · clear hk hv hd hks hvs hby HZ
    by_cases m1 : nk ≤ 4096
    · by_cases m2 : nv ≤ 4096
      · have m3 : ¬ nd ≤ 4096 := fun m3 => hn ⟨m1, m2, m3⟩
        go_wp2_with fail
        go_ret
        exact ⟨rfl, Below.refl _ _⟩
      · go_wp2_with fail
        go_ret
        exact ⟨rfl, Below.refl _ _⟩
    · go_wp2_with fail
      go_ret
      exact ⟨rfl, Below.refl _ _⟩
  obtain ⟨n1, n2, n3⟩ := hn
  have HT := too_big hk hv (da := da) (nd := nd) (dc := dc) n1 n2 n3 0 (by omega) hks hvs
  have HKV : Hid (Lst w (.slice ka nk kc0) nk (fun i => .string (K i)) ∧ Lst w (.slice va nv vc0) nv (fun i => .slice (A i) (L i) (C i)) ∧ Lst w (.slice da nd dc) nd (fun i => .bool (D i)) ∧ (∀ i, i < nv → Byt w (A i) (L i) (C i)) ∧ (∀ i, i < nk → (K i).size ≤ 1048576) ∧ (∀ i, i < nv → L i ≤ 1048576)) := ⟨hk, hv, hd, hby, hks, hvs⟩
  clear hk hv hd hks hvs hby HZ hr
  go_wp2_with fail
  refine HT.mono ?_
  clear HT
  rintro e w1 ⟨rfl, r, rfl, _⟩
  cases r with
  | true =>
    go_wp2_with fail
    go_ret
    exact ⟨rfl, Below.refl _ _⟩
  | false =>
  go_wp2_with fail
  refine (clone_strings HKV.out.1 (by omega)).mono ?_
  rintro e w1 ⟨kv, rfl, hkl, hc1⟩
  go_wp2_with fail
  refine (clone_vals (HKV.out.2.1.chg hc1) (by omega) (fun i hi => ⟨HKV.out.2.2.2.2.2 i hi, (HKV.out.2.2.2.1 i hi).chg hc1⟩)).mono ?_
  rintro e w2 ⟨vv, A', C', rfl, hvl, hbl, hc2⟩
  go_wp2_with fail
  refine (clone_bools (HKV.out.2.2.1.chg (hc1.trans hc2)) (by omega)).mono ?_
  rintro e w3 ⟨dv, rfl, hdl, hc3⟩
  have hscr : Scr w3.heap.size w3 kv vv dv nk nv nd K A' L C' D :=
    ⟨(hkl.toL.chg (hc2.trans hc3)).toB, (hvl.toL.chg hc3).toB, hdl.toL.toB, fun i hi => ((hbl i hi).chg hc3).toBB, n1, n2, HKV.out.2.2.2.2.1, HKV.out.2.2.2.2.2⟩
  have hc03 := (hc1.trans hc2).trans hc3
  obtain ⟨hsk, ka', kc', rfl, hk'⟩ := id hscr.keys
  obtain ⟨hsv, va', vc', rfl, hv'⟩ := id hscr.vals
  obtain ⟨hsd, da', dc', rfl, hd'⟩ := id hscr.dels
  clear hkl hvl hdl hbl hc1 hc2 hc3 hsk hk' hsv hv' hsd hd' HKV
  have HB4 : Hid (Chg [] w w3) := hc03
  have hnew : Chg [] w3 (w3.alloc (.cells #[.pointer none, .int .u64 0, .int .i64 0] 33)) := (Chg.refl _ _).alloc _
  have ht0 := tree_new w3
  have hb0 : Below w3.heap.size w3 (w3.alloc (.cells #[.pointer none, .int .u64 0, .int .i64 0] 33)) := below0 (Nat.le_refl _) hnew
  have HRS := run_script (hscr.below hb0) ht0
  have HB0 : Hid (Below w3.heap.size w3 (w3.alloc (.cells #[.pointer none, .int .u64 0, .int .i64 0] 33))) := hb0
  have HSCR : Hid (Scr w3.heap.size w3 (.slice ka' nk kc') (.slice va' nv vc') (.slice da' nd dc') nk nv nd K A' L C' D) := hscr
  clear hscr hc03 hnew ht0 hb0
  go_wp2_with fail
  refine HRS.mono ?_
  clear HRS
  rintro e w5 ⟨ev, ml, es, rfl, hran⟩
  generalize htb : w3.heap.size = tb at *
  have HTB : Hid (w3.heap.size = tb) := htb
  clear htb
  generalize (w3.alloc (.cells #[.pointer none, .int .u64 0, .int .i64 0] 33)) = w40 at *
  obtain ⟨ea, en, ec, rfl⟩ : ∃ a n c, ev = .slice a n c := by
    rcases hran.esAt.forms with ⟨rfl, _⟩ | ⟨g, cap, rfl, _⟩
    · exact ⟨_, _, _, rfl⟩
    · exact ⟨_, _, _, rfl⟩
  have HRN : Hid (Ran tb w40 w5 (.slice ea en ec) ml es 4096) := hran
  have hbW : Hid (Below w.heap.size w w5) := (below0 (Nat.le_refl _) HB4.out).trans ((HB0.out.trans HRN.out.below).mono (by rw [← HTB.out]; exact HB4.out.size))
  have hwt : Hid (w.heap.size ≤ tb) := by
    show _ ≤ _
    rw [← HTB.out]; exact HB4.out.size
  have HSO := sort_entries hran.esAt hran.mt.dist (by have := hran.mll; omega)
  clear hran
  go_wp2_with fail
  refine HSO.mono ?_
  clear HSO
  rintro e w6 ⟨rfl, Ls, hes6, hpm, hso, hc6⟩
  have hLe : Ls = es := sorted_eq Ls es hso HRN.out.tree.sorted (fun e => by rw [hpm.mem_iff, HRN.out.mt.mem])
  subst hLe
  have htr6 := es_chg HRN.out.tree HRN.out.esAt hc6
  have hb6 : Below tb w5 w6 := es_below HRN.out.esAt (Nat.le_of_lt HRN.out.tree.lt) hc6
  have hln := HRN.out.ln
  have hsz := HRN.out.size
  have HON : Hid (en = Ls.length) := hes6.len
  have HCK := check_yes noKeep tb w6 Ls htr6 (by omega)
  have HX6 : Hid (TreeAt noKeep tb w6 Ls ∧ EsAt tb w6 (.slice ea en ec) Ls ∧ Good tb w6 Ls ∧ Below tb w5 w6) := ⟨htr6, hes6, HRN.out.good.below hb6, hb6⟩
  clear htr6 hes6 hpm hso hc6 hb6
  go_wp2_with fail
  refine HCK.mono ?_
  clear HCK
  rintro e w12 ⟨⟨da1, db1, dc1, dd1, pa, pn, pc, rfl, hbe2⟩, hc12⟩
  have hc13 := hc12.alloc (.cells #[.bool true, .int .i64 da1, .bool db1, .string dc1, .int .i64 dd1, .bool true, .slice pa pn pc] 39)
  have hal : Chg [] w12 (w12.alloc (.cells #[.bool true, .int .i64 da1, .bool db1, .string dc1, .int .i64 dd1, .bool true, .slice pa pn pc] 39)) := (Chg.refl _ _).alloc _
  have hbe3 := hbe2.chg hal (fun _ _ => by simp)
  have hes13 := HX6.out.2.1.chg hc13 (fun _ _ => by simp)
  have HSE := same_entries hbe3 hes13 (HX6.out.2.2.1.rd.chg hc13) (by omega)
  have HX13 : Hid (Chg [] w6 (w12.alloc (.cells #[.bool true, .int .i64 da1, .bool db1, .string dc1, .int .i64 dd1, .bool true, .slice pa pn pc] 39))) := hc13
  clear hbe3 hbe2 hc13 hal hc12 hes13
  go_wp2_with fail
  refine HSE.mono ?_
  clear HSE
  rintro e w14 ⟨rfl, hc14⟩
  have hc614 : Chg [] w6 w14 := HX13.out.trans hc14
  have htr14 := HX6.out.1.chg0 hc614
  have A19 := acc19 tb _ w14 htr14.bytes
  obtain ⟨ra, hra, hrn⟩ := htr14.root
  have A18 := acc18 tb _ w14 hra
  have hz := binNil30
  have HMB := model_bytes (HX6.out.2.1.chg hc614 (fun _ _ => by simp)) (by omega) (by omega)
  have H14 : Hid (Chg [] w6 w14) := hc614
  clear htr14 hc14 hra hc614
  rw [← HON.out] at hrn
  generalize hS : sizeL Ls = S at *
  clear hS
  by_cases h0 : en = 0
  · have hrn' : ra.isNone = true := by rw [hrn]; simp [h0]
    clear hrn
    subst h0
    go_wp2_with fail
    refine A18.mono ?_
    rintro e w15 ⟨rfl, rfl⟩
    clear A18
    go_wp2_with fail
    refine A19.mono ?_
    rintro e w15 ⟨rfl, rfl⟩
    clear A19
    go_wp2_with fail
    refine HMB.mono ?_
    clear HMB
    rintro e w16 ⟨rfl, hc16⟩
    have H16 : Hid (Chg [] w6 w16) := H14.out.trans hc16
    clear hc16
    go_wp2_with fail
    go_loopg [10] nk (fun gg i wr => ∃ k : Nat, k ≤ nk ∧ gg = nk - k ∧ i = .int .i64 k ∧ Chg [] w6 wr)
    case atStart => exact ⟨0, by omega, by omega, rfl, H16.out⟩
    case round =>
      obtain ⟨k, hk, hgg, rfl, hch⟩ := hrel
      have HG : Hid (gk = nk - k) := hgg
      have HCH : Hid (Chg [] w6 wr) := hch
      clear hgg hch
      have zk : (0 : Int) ≤ (k : Int) := Int.natCast_nonneg _
      by_cases hlt : k < nk
      · have zk2 : (k : Int) < (nk : Int) := by omega
        have HAG : Hid (∀ W key, Chg [] w6 W → Calls Try.prog 21 #[.pointer (some ⟨tb, 0, none⟩), .slice ea 0 ec, .string key] W fun e w' => e = .returned (.bool true) ∧ Chg [] W w') := fun W key hW => get_agrees key (HX6.out.1.chg0 hW) (HX6.out.2.1.chg hW (fun _ _ => by simp)) (HX6.out.2.2.1.rd.chg hW) (by omega)
        have hscw : Scr tb w6 (.slice ka' nk kc') (.slice va' nv vc') (.slice da' nd dc') nk nv nd K A' L C' D := ((HSCR.out.below HB0.out).below HRN.out.below).below HX6.out.2.2.2
        obtain e0 | ⟨b, off, rfl, hkc⟩ := (hscw.keys.toL).open
        · omega
        have h1 := HCH.out.cell (hkc k hlt) (by simp)
        have HCC : Hid (w6.cell? ⟨b, off + k, none⟩ = some (.string (K k))) := hkc k hlt
        clear hscw hkc
        have hksz := HSCR.out.ks k hlt
        generalize K k = key at *
        go_wp2_with fail
        refine (HAG.out wr key HCH.out).mono ?_
        rintro e w17 ⟨rfl, hc17⟩
        have h2 := (HCH.out.trans hc17).cell HCC.out (by simp)
        have H17 : Hid (Chg [] w6 w17) := HCH.out.trans hc17
        clear hc17 h1
        go_wp2_with fail
        refine (HAG.out w17 _ H17.out).mono ?_
        rintro e w18 ⟨rfl, hc18⟩
        have H18 : Hid (Chg [] w6 w18) := H17.out.trans hc18
        clear hc18 h2
        go_wp2_with fail
        go_roundg (nk - (k + 1))
        case measure => have := HG.out; omega
        case rel => exact ⟨k + 1, by omega, rfl, by go_num, H18.out⟩
      · obtain rfl : k = nk := by omega
        have HF : Hid (Below w.heap.size w wr) := hbW.out.trans ((HX6.out.2.2.2.trans (below0 (Nat.le_of_lt HX6.out.1.lt) HCH.out)).mono hwt.out)
        go_wp2_with fail
        go_ret
        exact ⟨rfl, HF.out⟩
  · have hrn' : ra.isNone = false := by rw [hrn]; simp [h0]
    clear hrn
    go_wp2_with fail
    refine A18.mono ?_
    rintro e w15 ⟨rfl, rfl⟩
    clear A18
    go_wp2_with fail
    refine A19.mono ?_
    rintro e w15 ⟨rfl, rfl⟩
    clear A19
    go_wp2_with fail
    refine HMB.mono ?_
    clear HMB
    rintro e w16 ⟨rfl, hc16⟩
    have H16 : Hid (Chg [] w6 w16) := H14.out.trans hc16
    clear hc16
    go_wp2_with fail
    go_loopg [10] nk (fun gg i wr => ∃ k : Nat, k ≤ nk ∧ gg = nk - k ∧ i = .int .i64 k ∧ Chg [] w6 wr)
    case atStart => exact ⟨0, by omega, by omega, rfl, H16.out⟩
    case round =>
      obtain ⟨k, hk, hgg, rfl, hch⟩ := hrel
      have HG : Hid (gk = nk - k) := hgg
      have HCH : Hid (Chg [] w6 wr) := hch
      clear hgg hch
      have zk : (0 : Int) ≤ (k : Int) := Int.natCast_nonneg _
      by_cases hlt : k < nk
      · have zk2 : (k : Int) < (nk : Int) := by omega
        have HAG : Hid (∀ W key, Chg [] w6 W → Calls Try.prog 21 #[.pointer (some ⟨tb, 0, none⟩), .slice ea en ec, .string key] W fun e w' => e = .returned (.bool true) ∧ Chg [] W w') := fun W key hW => get_agrees key (HX6.out.1.chg0 hW) (HX6.out.2.1.chg hW (fun _ _ => by simp)) (HX6.out.2.2.1.rd.chg hW) (by omega)
        have hscw : Scr tb w6 (.slice ka' nk kc') (.slice va' nv vc') (.slice da' nd dc') nk nv nd K A' L C' D := ((HSCR.out.below HB0.out).below HRN.out.below).below HX6.out.2.2.2
        obtain e0 | ⟨b, off, rfl, hkc⟩ := (hscw.keys.toL).open
        · omega
        have h1 := HCH.out.cell (hkc k hlt) (by simp)
        have HCC : Hid (w6.cell? ⟨b, off + k, none⟩ = some (.string (K k))) := hkc k hlt
        clear hscw hkc
        have hksz := HSCR.out.ks k hlt
        generalize K k = key at *
        go_wp2_with fail
        refine (HAG.out wr key HCH.out).mono ?_
        rintro e w17 ⟨rfl, hc17⟩
        have h2 := (HCH.out.trans hc17).cell HCC.out (by simp)
        have H17 : Hid (Chg [] w6 w17) := HCH.out.trans hc17
        clear hc17 h1
        go_wp2_with fail
        refine (HAG.out w17 _ H17.out).mono ?_
        rintro e w18 ⟨rfl, hc18⟩
        have H18 : Hid (Chg [] w6 w18) := H17.out.trans hc18
        clear hc18 h2
        go_wp2_with fail
        go_roundg (nk - (k + 1))
        case measure => have := HG.out; omega
        case rel => exact ⟨k + 1, by omega, rfl, by go_num, H18.out⟩
      · obtain rfl : k = nk := by omega
        have HF : Hid (Below w.heap.size w wr) := hbW.out.trans ((HX6.out.2.2.2.trans (below0 (Nat.le_of_lt HX6.out.1.lt) HCH.out)).mono hwt.out)
        go_wp2_with fail
        go_ret
        exact ⟨rfl, HF.out⟩
end Go.Proofs.Qxb6603401a
