import Derived.Test.Qxb6603401aSubs
import Derived.Test.Qxb6603401aLawH
import Derived.Test.Qxb6603401aCheckZ
namespace Go.Proofs.Qxb6603401a
open Go Go.RowKit Go.Deep
set_option linter.unusedSimpArgs false
set_option linter.unusedVariables false

set_option maxHeartbeats 2000000 in
theorem zz35 {nk kc0 nv vc0 nd dc : Nat} {ka va da : Option Addr} {K : Nat → ByteArray} {A : Nat → Option Addr} {L C : Nat → Nat} (gi : Int) {w : World} (hk : Lst w (.slice ka nk kc0) nk (fun i => .string (K i))) (hv : Lst w (.slice va nv vc0) nv (fun i => .slice (A i) (L i) (C i))) :
    Calls Try.prog 35 #[.slice ka nk kc0, .slice va nv vc0, .slice da nd dc, .int .i64 gi] w fun e w' => w = w' ∧ ZzOk ((∀ i, i < nk → (K i).size ≤ 1048576) ∧ (∀ i, i < nv → L i ≤ 1048576)) e := by
  replace hk := hk.open
  replace hv := hv.open
  have HK : Hid (nk = 0 ∨ ∃ b off, ka = some ⟨b, off, none⟩ ∧ ∀ i, i < nk → w.cell? ⟨b, off + i, none⟩ = some (.string (K i))) := hk
  have HV : Hid (nv = 0 ∨ ∃ b off, va = some ⟨b, off, none⟩ ∧ ∀ i, i < nv → w.cell? ⟨b, off + i, none⟩ = some (.slice (A i) (L i) (C i))) := hv
  clear hk hv
  go_enter Try.func35, Try.ntmps35
  by_cases n1 : nk ≤ 1048576
  rotate_left
  · go_wp2_with fail
    go_ret
    exact ⟨rfl, ZzOk.no⟩
  go_wp2_with fail
  go_loopg [9, 10] nk (fun gg t i wr => ∃ (k : Nat) (z : Int), k ≤ nk ∧ gg = nk - k ∧ t = .int .i64 z ∧ i = .int .i64 k ∧ 0 ≤ z ∧ z ≤ 1048576 ∧ (∀ j, j < k → (K j).size ≤ 1048576) ∧ w = wr)
  case atStart => exact ⟨0, nk, by omega, by omega, by first | rfl | go_num, rfl, by omega, by omega, fun j hj => by omega, rfl⟩
  case round =>
    obtain ⟨k, z, hk, hg, rfl, rfl, hz0, hz1, hal, rfl⟩ := hrel
    have HG : Hid (gk = nk - k) := hg
    have HA : Hid _ := hal
    clear hg hal
    by_cases hlt : k < nk
    · obtain e0 | ⟨b, off, rfl, hkc⟩ := HK.out
      · omega
      have h1 := hkc k hlt
      by_cases hsz : (K k).size ≤ 1048576
      rotate_left
      · go_wp2_with fail
        go_ret
        exact ⟨rfl, ZzOk.no⟩
      by_cases hto : z + ((K k).size : Int) ≤ 1048576
      rotate_left
      · go_wp2_with fail
        go_ret
        exact ⟨rfl, ZzOk.no⟩
      have HZ : Hid ((K k).size ≤ 1048576) := hsz
      go_wp2_with fail
      go_roundg (nk - (k + 1))
      case measure => have := HG.out; omega
      case rel =>
        refine ⟨k + 1, _, by omega, rfl, by go_num, rfl, by omega, hto, fun j hj => ?_, rfl⟩
        by_cases e : j = k
        · subst e; exact HZ.out
        · exact HA.out j (by omega)
    · obtain rfl : k = nk := by omega
      clear HG
      by_cases n2 : nv ≤ 1048576
      rotate_left
      · go_wp2_with fail
        go_ret
        exact ⟨rfl, ZzOk.no⟩
      by_cases n3 : z + (nv : Int) ≤ 1048576
      rotate_left
      · go_wp2_with fail
        go_ret
        exact ⟨rfl, ZzOk.no⟩
      have HA1 : Hid (∀ i, i < k → (K i).size ≤ 1048576) := HA.out
      go_wp2_with fail
      go_loopg [9, 11] nv (fun gg t i wr => ∃ (k : Nat) (z : Int), k ≤ nv ∧ gg = nv - k ∧ t = .int .i64 z ∧ i = .int .i64 k ∧ 0 ≤ z ∧ z ≤ 1048576 ∧ (∀ j, j < k → L j ≤ 1048576) ∧ w = wr)
      case atStart => exact ⟨0, z + nv, by omega, by omega, by first | rfl | go_num, rfl, by omega, by omega, fun j hj => by omega, rfl⟩
      case round =>
        clear hz0 hz1 n2 n3 hlt hk
        obtain ⟨k, z, hk, hg, rfl, rfl, hz0, hz1, hal, rfl⟩ := hrel
        have HG : Hid (gk = nv - k) := hg
        have HA : Hid _ := hal
        clear hg hal
        by_cases hlt : k < nv
        · obtain e0 | ⟨b, off, rfl, hvc⟩ := HV.out
          · omega
          have h1 := hvc k hlt
          by_cases hsz : L k ≤ 1048576
          rotate_left
          · go_wp2_with fail
            go_ret
            exact ⟨rfl, ZzOk.no⟩
          by_cases hto : z + (L k : Int) ≤ 1048576
          rotate_left
          · go_wp2_with fail
            go_ret
            exact ⟨rfl, ZzOk.no⟩
          have HZ : Hid (L k ≤ 1048576) := hsz
          go_wp2_with fail
          go_roundg (nv - (k + 1))
          case measure => have := HG.out; omega
          case rel =>
            refine ⟨k + 1, _, by omega, rfl, by go_num, rfl, by omega, hto, fun j hj => ?_, rfl⟩
            by_cases e : j = k
            · subst e; exact HZ.out
            · exact HA.out j (by omega)
        · obtain rfl : k = nv := by omega
          by_cases n4 : nd ≤ 1048576
          rotate_left
          · go_wp2_with fail
            go_ret
            exact ⟨rfl, ZzOk.no⟩
          by_cases n5 : z + (nd : Int) ≤ 1048576
          rotate_left
          · go_wp2_with fail
            go_ret
            exact ⟨rfl, ZzOk.no⟩
          go_wp2_with fail
          go_ret
          exact ⟨rfl, ZzOk.yes ⟨HA1.out, HA.out⟩⟩

theorem Env.keepG {F : Keep} {B : Nat} {σ : Store} {w : World} (he : Env F B σ w) {g : Nat} {c : Array Value} {T : TypeId} {f : Nat × Nat} (hg : w.heap[g]? = some (.cells c T f)) (h1 : T ≠ 82) (h2 : T ≠ 79) (h3 : T ≠ 30) :
    ∃ F', Env F' B σ w ∧ F' g = some (.cells c T f) ∧ ∀ b o, F b = some o → F' b = some o := by
  refine ⟨_, he.keepPut hg (fun e => absurd e h1) h2 h3, Keep.put_same _ _ _, fun b o hb => ?_⟩
  by_cases e : b = g
  · subst e
    rw [Keep.put_same]
    have := he.keep b o hb
    rw [hg] at this
    exact this
  · rw [Keep.put_other _ _ e]
    exact hb
theorem keepE {F : Keep} {B E : Nat} {σ : Store} {w : World} {ml : List It} {v : Value} (he : Env F B σ w) (hv : EsAt E w v ml) :
    ∃ F', Env F' B σ w ∧ (∀ b o, F b = some o → F' b = some o) ∧ ∀ w' σ', Env F' B σ' w' → EsAt E w' v ml := by
  rcases hv.2 with h1 | ⟨g, cap, cur, rfl, h2, h3, h4⟩
  · exact ⟨F, he, fun b o h => h, fun w' σ' _ => ⟨hv.1, .inl h1⟩⟩
  · obtain ⟨F', k1, k2, k3⟩ := he.keepG h3 (by decide) (by decide) (by decide)
    exact ⟨F', k1, k3, fun w' σ' he' => ⟨hv.1, .inr ⟨g, cap, cur, rfl, h2, he'.keep g _ k2, h4⟩⟩⟩
theorem keepR {F : Keep} {B E : Nat} {σ : Store} {w : World} {rs : List Rw} {v : Value} (he : Env F B σ w) (hv : RowsAt E w v rs) :
    ∃ F', Env F' B σ w ∧ (∀ b o, F b = some o → F' b = some o) ∧ ∀ w' σ', Env F' B σ' w' → RowsAt E w' v rs := by
  rcases hv.2 with h1 | ⟨g, cap, cur, rfl, h2, h3, h4⟩
  · exact ⟨F, he, fun b o h => h, fun w' σ' _ => ⟨hv.1, .inl h1⟩⟩
  · obtain ⟨F', k1, k2, k3⟩ := he.keepG h3 (by decide) (by decide) (by decide)
    exact ⟨F', k1, k3, fun w' σ' he' => ⟨hv.1, .inr ⟨g, cap, cur, rfl, h2, he'.keep g _ k2, h4⟩⟩⟩
theorem check_R {d : Nat} (tb : Nat) (w : World) (rb : Nat) (its : List It) (ks : List (Tr d)) (σ : Store) (hc0 : w.cell? ⟨tb, 0, none⟩ = some (ptr rb)) (he : Env noKeep (tb + 1) σ w) (hh : Has σ (node rb its ks)) (hok : (node rb its ks).Ok 0) (hd : d + 1 ≤ 64) (hs : Sorted (node rb its ks).ents) (hn : (node rb its ks).ents.length ≤ 1000000) :
    Calls Try.prog 16 #[.pointer (some ⟨tb, 0, none⟩), .bool true, .bool true] w fun e w' => (∃ (a : Int) (b : Bool) (c : ByteArray) (d : Int) (oa : Option Addr) (on oc : Nat), e = .returned (.agg #[.bool true, .int .i64 a, .bool b, .string c, .int .i64 d, .bool true, .slice oa on oc]) ∧ EsAt w.heap.size w' (.slice oa on oc) (node rb its ks).ents) ∧ Chg [] w w' := by
  by_cases h0 : its.length = 0
  · have hI : σ rb = some ⟨its, some (ks.map Tr.root)⟩ := hh.here.1
    have hk : w.cell? ⟨rb + 1, 2, none⟩ = some (.slice (some ⟨rb + 2, 0, none⟩) (ks.map Tr.root).length 32) := (he.rep rb _ hI).khdr
    exact check_empty tb w (d + 1) (node rb its ks) σ 0 hc0 he hh hok hd hs hn h0 hk
  · exact check_fullR tb w (d + 1) (node rb its ks) σ 0 hc0 he hh hok hd hs hn h0

set_option maxHeartbeats 16000000 in
set_option maxRecDepth 100000 in
theorem law7 {kv vv dv : Value} {nk nv nd : Nat} {K : Nat → ByteArray} {A : Nat → Option Addr} {L C : Nat → Nat} {D : Nat → Bool} {w : World} (hk : Lst w kv nk (fun i => .string (K i))) (hv : Lst w vv nv (fun i => .slice (A i) (L i) (C i)))
    (hd : Lst w dv nd (fun i => .bool (D i))) (hby : ∀ i, i < nv → Byt w (A i) (L i) (C i)) (gi : Int) (hgw : (Lit.int .i64 gi).wf = true) :
    Calls Try.prog 7 #[kv, vv, dv, .int .i64 gi] w fun e w' => e = .returned (.bool true) ∧ Below w.heap.size w w' := by
  obtain ⟨ka, kc0, rfl, hk0⟩ := hk
  obtain ⟨va, vc0, rfl, hv0⟩ := hv
  obtain ⟨da, dc, rfl, hd0⟩ := hd
  have hk : Lst w (.slice ka nk kc0) nk (fun i => .string (K i)) := ⟨_, _, rfl, hk0⟩
  have hv : Lst w (.slice va nv vc0) nv (fun i => .slice (A i) (L i) (C i)) := ⟨_, _, rfl, hv0⟩
  have hd : Lst w (.slice da nd dc) nd (fun i => .bool (D i)) := ⟨_, _, rfl, hd0⟩
  clear hk0 hv0 hd0
  have HZ := zz35 gi hk hv (da := da) (nd := nd) (dc := dc)
  go_enter Try.func7, Try.ntmps7
  go_wp2_with fail
  refine HZ.mono ?_
  rintro e w1 ⟨rfl, r, rfl, hr⟩
  cases r with
  | false =>
    go_wp2_with fail
    go_ret
    exact ⟨rfl, Below.refl _ _⟩
  | true =>
  obtain ⟨hks, hvs⟩ := hr rfl
  by_cases hn : nk ≤ 4096 ∧ nv ≤ 4096 ∧ nd ≤ 4096
  rotate_left
  · clear hk hv hd hks hvs hby HZ
    by_cases m1 : nk ≤ 4096
    · by_cases m2 : nv ≤ 4096
      · have m3 : ¬ nd ≤ 4096 := fun m3 => hn ⟨m1, m2, m3⟩
        go_wp2_with fail
        go_ret
        exact ⟨rfl, Below.refl _ _⟩
      · go_wp2_with fail
        go_ret
        exact ⟨rfl, Below.refl _ _⟩
    · go_wp2_with fail
      go_ret
      exact ⟨rfl, Below.refl _ _⟩
  obtain ⟨n1, n2, n3⟩ := hn
  have HT := too_big hk hv (da := da) (nd := nd) (dc := dc) n1 n2 n3 0 (by omega) hks hvs
  have HKV : Hid (Lst w (.slice ka nk kc0) nk (fun i => .string (K i)) ∧ Lst w (.slice va nv vc0) nv (fun i => .slice (A i) (L i) (C i)) ∧ Lst w (.slice da nd dc) nd (fun i => .bool (D i)) ∧ (∀ i, i < nv → Byt w (A i) (L i) (C i)) ∧ (∀ i, i < nk → (K i).size ≤ 1048576) ∧ (∀ i, i < nv → L i ≤ 1048576)) := ⟨hk, hv, hd, hby, hks, hvs⟩
  clear hk hv hd hks hvs hby HZ hr
  go_wp2_with fail
  refine HT.mono ?_
  clear HT
  rintro e w1 ⟨rfl, r, rfl, _⟩
  cases r with
  | true =>
    go_wp2_with fail
    go_ret
    exact ⟨rfl, Below.refl _ _⟩
  | false =>
  go_wp2_with fail
  refine (clone_strings HKV.out.1 (by omega)).mono ?_
  rintro e w1 ⟨kv, rfl, hkl, hc1⟩
  go_wp2_with fail
  refine (clone_vals (HKV.out.2.1.chg hc1) (by omega) (fun i hi => ⟨HKV.out.2.2.2.2.2 i hi, (HKV.out.2.2.2.1 i hi).chg hc1⟩)).mono ?_
  rintro e w2 ⟨vv, A', C', rfl, hvl, hbl, hc2⟩
  go_wp2_with fail
  refine (clone_bools (HKV.out.2.2.1.chg (hc1.trans hc2)) (by omega)).mono ?_
  rintro e w3 ⟨dv, rfl, hdl, hc3⟩
  have hscr : Scr w3.heap.size w3 kv vv dv nk nv nd K A' L C' D :=
    ⟨(hkl.toL.chg (hc2.trans hc3)).toB, (hvl.toL.chg hc3).toB, hdl.toL.toB, fun i hi => ((hbl i hi).chg hc3).toBB, n1, n2, HKV.out.2.2.2.2.1, HKV.out.2.2.2.2.2⟩
  have hc03 := (hc1.trans hc2).trans hc3
  obtain ⟨hsk, ka', kc', rfl, hk'⟩ := id hscr.keys
  obtain ⟨hsv, va', vc', rfl, hv'⟩ := id hscr.vals
  obtain ⟨hsd, da', dc', rfl, hd'⟩ := id hscr.dels
  clear hkl hvl hdl hbl hc1 hc2 hc3 hsk hk' hsv hv' hsd hd' HKV
  have HB4 : Hid (Chg [] w w3) := hc03
  have hnew : Chg [] w3 (w3.alloc (.cells #[.pointer none, .int .u64 0, .int .i64 0] 33)) := (Chg.refl _ _).alloc _
  have ht0 := tree_new w3
  have hb0 : Below w3.heap.size w3 (w3.alloc (.cells #[.pointer none, .int .u64 0, .int .i64 0] 33)) := below0 (Nat.le_refl _) hnew
  have HRS := run_script (hscr.below hb0) ht0
  have HB0 : Hid (Below w3.heap.size w3 (w3.alloc (.cells #[.pointer none, .int .u64 0, .int .i64 0] 33))) := hb0
  clear hscr hc03 hnew ht0 hb0
  go_wp2_with fail
  refine HRS.mono ?_
  clear HRS
  rintro e w5 ⟨ev, ml, es, rfl, hran⟩
  generalize htb : w3.heap.size = tb at *
  have HTB : Hid (w3.heap.size = tb) := htb
  clear htb
  generalize (w3.alloc (.cells #[.pointer none, .int .u64 0, .int .i64 0] 33)) = w40 at *
  obtain ⟨ea, en, ec, rfl⟩ : ∃ a n c, ev = .slice a n c := by
    rcases hran.esAt.forms with ⟨rfl, _⟩ | ⟨g, cap, rfl, _⟩
    · exact ⟨_, _, _, rfl⟩
    · exact ⟨_, _, _, rfl⟩
  have HRN : Hid (Ran tb w40 w5 (.slice ea en ec) ml es 4096) := hran
  have hbW : Hid (Below w.heap.size w w5) := (below0 (Nat.le_refl _) HB4.out).trans ((HB0.out.trans HRN.out.below).mono (by rw [← HTB.out]; exact HB4.out.size))
  have hwt : Hid (w.heap.size ≤ tb) := by
    show _ ≤ _
    rw [← HTB.out]; exact HB4.out.size
  obtain ⟨root, hh0, hroot⟩ := hran.tree.is
  have hc0 : w5.cell? ⟨tb, 0, none⟩ = some root := (Lib.cell_of_heap hh0 0).trans rfl
  have hgen : Gen tb w5 := (Lib.cell_of_heap hh0 1).trans rfl
  have A18 := acc18 tb root w5 hc0
  have hz := binNil30
  have htl : tb < w5.heap.size := hran.tree.lt
  clear hran
  rcases hroot with ⟨rfl, rfl, _⟩ | ⟨d, t, σ, rfl, he, hh, hok, hen⟩
  · go_wp2_with fail
    refine A18.mono ?_
    rintro e w6 ⟨rfl, rfl⟩
    go_wp2_with fail
    go_ret
    exact ⟨rfl, hbW.out⟩
  cases d with
  | zero =>
    obtain ⟨b, its⟩ := t
    have A36 := acc36 b none 0 0 w5 (he.rep b _ hh.here).khdr
    simp only [Option.isNone] at A36
    have hrt : ptr (Tr.root (d := 0) (b, its)) = .pointer (some ⟨b + 1, 0, none⟩) := rfl
    rw [hrt] at A18
    unfold ptr at A36
    clear he hh hok hen hgen hc0 hh0 hrt
    go_wp2_with fail
    refine A18.mono ?_
    rintro e w6 ⟨rfl, rfl⟩
    go_wp2_with fail
    refine A36.mono ?_
    rintro e w6 ⟨rfl, rfl⟩
    go_wp2_with fail
    go_ret
    exact ⟨rfl, hbW.out⟩
  | succ d =>
  obtain ⟨b, its, ks⟩ := t
  have hI : σ b = some ⟨its, some (ks.map Tr.root)⟩ := hh.here.1
  have hkl : ks.length = its.length + 1 := hok.2.2.1
  have hl31 : its.length ≤ 31 := hok.2.1
  have hl1 : 1 ≤ its.length := hok.1
  have hkh : w5.cell? ⟨b + 1, 2, none⟩ = some (.slice (some ⟨b + 2, 0, none⟩) ks.length 32) := by
    have : w5.cell? ⟨b + 1, 2, none⟩ = some (.slice (some ⟨b + 2, 0, none⟩) (ks.map Tr.root).length 32) := (he.rep b _ hI).khdr
    rw [List.length_map] at this
    exact this
  have A36 := acc36 b _ _ _ w5 hkh
  have A37 := acc37 b _ _ _ w5 hkh
  simp only [Option.isNone] at A36
  have hrt : ptr (Tr.root (d := d + 1) (b, its, ks)) = .pointer (some ⟨b + 1, 0, none⟩) := rfl
  rw [hrt] at A18 hc0
  unfold ptr at A36 A37
  have hd64 : d + 1 ≤ 64 := Tr.deep64 hok (by rw [hen]; have := HRN.out.ln; omega)
  have HTR : Hid (Env noKeep (tb + 1) σ w5 ∧ Has σ (node b its ks) ∧ (node b its ks).Ok 1 ∧ (node b its ks).ents = es ∧ Gen tb w5 ∧ w5.cell? ⟨tb, 0, none⟩ = some (ptr b)) := ⟨he, hh, hok, hen, hgen, hc0⟩
  clear he hh hok hen hgen hc0 hh0 hrt hI hkh
  go_wp2_with fail
  refine A18.mono ?_
  rintro e w6 ⟨rfl, rfl⟩
  go_wp2_with fail
  refine A36.mono ?_
  rintro e w6 ⟨rfl, rfl⟩
  go_wp2_with fail
  refine A37.mono ?_
  rintro e w6 ⟨rfl, rfl⟩
  clear A18 A36 A37
  by_cases hg0 : gi < 0
  · go_wp2_with fail
    go_ret
    exact ⟨rfl, hbW.out⟩
  by_cases hg1 : gi < (ks.length : Int)
  rotate_left
  · have hg1' : (ks.length : Int) ≤ gi := by omega
    go_wp2_with fail
    go_ret
    exact ⟨rfl, hbW.out⟩
  obtain ⟨i, rfl⟩ : ∃ i : Nat, gi = (i : Int) := ⟨gi.toNat, by omega⟩
  obtain ⟨A, c, C, rfl, rfl⟩ := split_ks ks i (by omega)
  generalize hcl : ((A ++ c :: C).length : Int) = CL at *
  have HCL : Hid (((A ++ c :: C).length : Int) = CL) := hcl
  clear hcl
  have hln := HRN.out.ln
  have HCK := check_yes noKeep tb w5 es HRN.out.tree (by omega)
  go_wp2_with fail
  refine HCK.mono ?_
  clear HCK
  rintro e w6 ⟨⟨ca, cb, cc, cd, oa, on, oc, rfl, hbe⟩, hc6⟩
  have hfd := field39 ca cb cc cd oa on oc
  have he6 := HTR.out.1.chg0 hc6
  have hIb : σ b = some ⟨its, some ((A ++ c :: C).map Tr.root)⟩ := HTR.out.2.1.here.1
  have hN6 := he6.rep b _ hIb
  have hka0 := kid_alone HTR.out.2.1
  have A38 : Calls Try.prog 38 #[ptr b, .int .i64 (A.length : Nat)] w6 fun e w' => e = .returned (ptr c.root) ∧ w6 = w' := by
    have hk' : A.length < ((A ++ c :: C).map Tr.root).length := by simp
    have h1 : w6.cell? ⟨b + 2, A.length, none⟩ = some (ptr ((A ++ c :: C).map Tr.root)[A.length]) := hN6.kid rfl hk'
    have h2 : ((A ++ c :: C).map Tr.root)[A.length] = c.root := by
      have := hka0.1
      rw [List.getElem?_eq_getElem hk'] at this
      exact Option.some.inj this
    rw [h2] at h1
    exact acc38 b A.length ((A ++ c :: C).map Tr.root).length _ w6 hN6.khdr hk' h1
  have hc06 : w6.cell? ⟨tb, 0, none⟩ = some (ptr b) := hc6.cell HTR.out.2.2.2.2.2 (by simp)
  have HDT := dump_tree tb w6 (d + 1) (node b its (A ++ c :: C)) σ 1 hc06 he6 HTR.out.2.1.here HTR.out.2.2.1 hd64 (by rw [HTR.out.2.2.2.1]; omega)
  have hcI : c.In σ := HTR.out.2.1.here.2 c (show c ∈ A ++ c :: C from List.mem_append_right _ List.mem_cons_self)
  have hcok : c.Ok 15 := HTR.out.2.2.1.2.2.2 c (show c ∈ A ++ c :: C from List.mem_append_right _ List.mem_cons_self)
  have H6 : Hid (Env noKeep (tb + 1) σ w6 ∧ EsAt w5.heap.size w6 (.slice oa on oc) es ∧ Chg [] w5 w6 ∧ c.In σ ∧ c.Ok 15 ∧ σ b = some ⟨its, some ((A ++ c :: C).map Tr.root)⟩) := ⟨he6, hbe, hc6, hcI, hcok, hIb⟩
  clear he6 hN6 hka0 hc06 hcI hcok hbe hc6 hIb
  unfold ptr at A38
  go_wp2_with fail
  refine A38.mono ?_
  clear A38
  rintro e w7 ⟨rfl, rfl⟩
  go_wp2_with fail
  refine HDT.mono ?_
  clear HDT
  rintro e w7 ⟨rv, rfl, hrv, hc7⟩
  obtain ⟨va7, vn7, vc7, rfl⟩ := hrv.slice
  have he7 := H6.out.1.chg0 hc7
  have hsub : c.ents.length ≤ 4096 := by
    have h1 := (ents_len b its (A ++ c :: C) hkl)
    have h2 := HTR.out.2.2.2.1
    rw [h2] at h1
    have h3 : c.ents.length ≤ ((A ++ c :: C).map fun k => k.ents.length).sum := by
      simp only [List.map_append, List.map_cons, List.sum_append, List.sum_cons]
      omega
    omega
  have HCO := coll_all d c 15 0 (tb + 1) w7.heap.size σ w7 (.slice none 0 0) [] he7 H6.out.2.2.2.1 H6.out.2.2.2.2.1 (by omega) (World.ownsRow_nil _ _ _ _) (Nat.le_refl _) (by rw [List.nil_append]; omega)
  rw [List.nil_append, show (((0 : Nat) : Int)) = 0 from rfl] at HCO
  have H7 : Hid (Env noKeep (tb + 1) σ w7 ∧ RowsAt w6.heap.size w7 (.slice va7 vn7 vc7) (Tr.dump (node b its (A ++ c :: C)) 0) ∧ EsAt w5.heap.size w7 (.slice oa on oc) es ∧ Chg [] w5 w7) := ⟨he7, hrv, H6.out.2.1.chg hc7 (fun _ _ => by simp), H6.out.2.2.1.trans hc7⟩
  clear he7 hrv hc7
  unfold ptr at HCO
  go_wp2_with fail
  refine HCO.mono ?_
  clear HCO
  rintro e w8 ⟨cv, rfl, hcv, hrs8⟩
  obtain ⟨ca8, cn8, cc8, rfl⟩ := hcv.slice
  have hc8 : Chg [] w7 w8 := hrs8.chg
  have he8 := H7.out.1.chg0 hc8
  have hNc := he8.rep _ _ H6.out.2.2.2.1.in_root
  have A40c : Calls Try.prog 40 #[ptr c.root] w8 fun e w' => e = .returned (.int .i64 (c.its.length : Nat)) ∧ w8 = w' := acc40 c.root _ w8 (by have := hNc.hdr; rw [c.nd_its] at this; exact this)
  have A40b := acc40 b its.length w8 (he8.rep b _ H6.out.2.2.2.2.2).hdr
  obtain ⟨F1, k1, l1, m1⟩ := keepE he8 (H7.out.2.2.1.chg hc8 (fun _ _ => by simp))
  obtain ⟨F2, k2, l2, m2⟩ := keepR k1 (H7.out.2.1.chg hc8 (fun _ _ => by simp))
  obtain ⟨F3, k3, l3, m3⟩ := keepE k2 hcv
  have hc58 : Chg [] w5 w8 := H7.out.2.2.2.trans hc8
  have hg8 : Gen tb w8 := hc58.cell HTR.out.2.2.2.2.1 (by simp)
  have hc08 : w8.cell? ⟨tb, 0, none⟩ = some (ptr b) := hc58.cell HTR.out.2.2.2.2.2 (by simp)
  have HGW := grow_tree F3 (tb + 1) tb b its A c C σ w8 hg8 (Nat.lt_succ_self _) k3 HTR.out.2.1 hkl hl1 HTR.out.2.2.1.2.2.2
  have HGZ := zz_grow (Q := fun r w' => ∃ (its' : List It) (A' : List (Tr d)) (c' : Tr d) (C' : List (Tr d)) (σ' : Store), r = c'.root ∧ Env F3 (tb + 1) σ' w' ∧ Below (tb + 1) w8 w' ∧ Grown σ σ' b its A c C its' A' c' C') (HGW.mono fun e w' ⟨its', A', c', C', σ', h1, h2⟩ => ⟨c'.root, h1, its', A', c', C', σ', rfl, h2⟩)
  have H8 : Hid ((∀ w' σ', Env F3 (tb + 1) σ' w' → EsAt w5.heap.size w' (.slice oa on oc) es ∧ RowsAt w6.heap.size w' (.slice va7 vn7 vc7) (Tr.dump (node b its (A ++ c :: C)) 0) ∧ EsAt w7.heap.size w' (.slice ca8 cn8 cc8) c.ents) ∧ Below tb w5 w8 ∧ w8.cell? ⟨tb, 0, none⟩ = some (ptr b)) :=
    ⟨fun w' σ' hx => ⟨m1 w' σ' ((hx.keepLess l3).keepLess l2), m2 w' σ' (hx.keepLess l3), m3 w' σ' hx⟩, below0 (Nat.le_of_lt htl) hc58, hc08⟩
  clear he8 hNc k1 l1 m1 k2 l2 m2 k3 l3 m3 hc58 hg8 hc08 HGW hcv hrs8 hc8
  have hng := neq_same
  have zl : ((its.length : Nat) : Int) ≤ 31 := by omega
  by_cases hsp : 15 < c.its.length
  · have zsp : (15 : Int) < (c.its.length : Int) := by omega
    unfold ptr at A40c A40b HGZ
    go_wp2_with fail
    refine A40c.mono ?_
    rintro e w9 ⟨rfl, rfl⟩
    clear A40c
    go_wp2_with fail
    refine A40b.mono ?_
    rintro e w9 ⟨rfl, rfl⟩
    clear A40b
    go_wp2_with fail
    refine HGZ.mono ?_
    clear HGZ
    rintro e w9 ⟨r, rfl, its', A', c', C', σ', rfl, he9, hb9, hG⟩
    obtain ⟨hs1, hs2, hs3, hs4, hs5⟩ := hG.spare hsp
    replace hs1 := hs1.symm
    replace hs2 := hs2.symm
    replace hs3 := hs3.symm
    replace hs4 := hs4.symm
    replace hs5 := hs5.symm
    subst hs1 hs2 hs3 hs4 hs5
    have hinb : σ b = some ⟨its, some ((A ++ c :: C).map Tr.root)⟩ := hG.has.here.1
    have hka := kid_alone hG.has
    have hok9 : (node b its (A ++ c :: C)).Ok 0 := hG.okAt (m := 0) hl1 hl31 (hG.ok c (List.mem_append_right _ List.mem_cons_self))
    have hi31 : its.length ≤ 31 := hok9.2.1
    have hkl9 : (A ++ c :: C).length ≤ 32 := by
      have h1 := hG.klen
      omega
    have hcI9 : c.In σ := hG.has.here.2 c (show c ∈ A ++ c :: C from List.mem_append_right _ List.mem_cons_self)
    have hcok9 : c.Ok 15 := hG.ok c (List.mem_append_right _ List.mem_cons_self)
    have hents : (node b its (A ++ c :: C)).ents = es := (hG.ents hkl).trans HTR.out.2.2.2.1
    have hfull := hG.full
    have hc31 := (c.ok_len hcok9).2
    have zf1 : (16 : Int) ≤ (c.its.length : Int) := by omega
    have zf2 : (c.its.length : Int) ≤ 31 := by omega
    have zi1 : (its.length : Int) ≤ 31 := by omega
    have hb59 : Below tb w5 w9 := H8.out.2.1.trans (hb9.mono (Nat.le_succ _))
    have hc09 : w9.cell? ⟨tb, 0, none⟩ = some (ptr b) := (hb9.cell (p := ⟨tb, 0, none⟩) (Nat.lt_succ_self _)).trans H8.out.2.2
    have A18 := acc18 tb _ w9 hc09
    have A42 := child_index b (tb + 1) its _ σ w9 A.length c.root he9.bare hinb (by rw [List.length_map]; exact hkl9) hka.1 hka.2.1 hka.2.2
    have HAC : Hid (∀ W, Env F3 (tb + 1) σ W → (Calls Try.prog 40 #[ptr c.root] W fun e w' => e = .returned (.int .i64 (c.its.length : Nat)) ∧ W = w') ∧ (Calls Try.prog 40 #[ptr b] W fun e w' => e = .returned (.int .i64 (its.length : Nat)) ∧ W = w')) := fun W hW => by
      have h1 := (hW.rep _ _ hcI9.in_root).hdr
      rw [c.nd_its] at h1
      exact ⟨acc40 c.root _ W h1, acc40 b _ W (hW.rep b _ hinb).hdr⟩
    have HCK := check_R tb w9 b its (A ++ c :: C) σ hc09 he9.bare hG.has hok9 hd64 (by rw [hents]; exact HRN.out.tree.sorted) (by rw [hents]; omega)
    rw [hents] at HCK
    have hsub9 : c.ents.length ≤ 4096 := by
      have h1 := (ents_len b its (A ++ c :: C) hG.klen)
      rw [hents] at h1
      have h3 : c.ents.length ≤ ((A ++ c :: C).map fun k => k.ents.length).sum := by
        simp only [List.map_append, List.map_cons, List.sum_append, List.sum_cons]
        omega
      omega
    have HCO : Hid (∀ W, Env F3 (tb + 1) σ W → Calls Try.prog 39 #[ptr c.root, .int .i64 0, .slice none 0 0] W fun e w' => ∃ v', e = .returned v' ∧ EsAt W.heap.size w' v' c.ents ∧ RS (.slice none 0 0) W v' w') := fun W hW => by
      have h1 := coll_all d c 15 0 (tb + 1) W.heap.size σ W (.slice none 0 0) [] hW.bare hcI9 hcok9 (by omega) (World.ownsRow_nil _ _ _ _) (Nat.le_refl _) (by rw [List.nil_append]; omega)
      rw [List.nil_append] at h1
      exact h1
    have H9 : Hid (Env F3 (tb + 1) σ w9 ∧ Below tb w5 w9 ∧ Grown σ σ b its A c C its A c C ∧ (node b its (A ++ c :: C)).ents = es ∧ (node b its (A ++ c :: C)).Ok 0 ∧ w9.cell? ⟨tb, 0, none⟩ = some (ptr b)) := ⟨he9, hb59, hG, hents, hok9, hc09⟩
    have A40x := (HAC.out w9 he9).1
    have hz := binNil30
    have zA : (0 : Int) ≤ (A.length : Int) := Int.natCast_nonneg _
    clear hinb hka hok9 hkl9 hcI9 hents hb59 hc09 he9 hb9 hG hcok9
    unfold ptr at A18 A42 A40x
    go_wp2_with fail
    refine A18.mono ?_
    clear A18
    rintro e w10 ⟨rfl, rfl⟩
    go_wp2_with fail
    refine A40x.mono ?_
    clear A40x
    rintro e w10 ⟨rfl, rfl⟩
    go_wp2_with fail
    refine A42.mono ?_
    clear A42
    rintro e w10 ⟨rfl, rfl⟩
    go_wp2_with fail
    refine HCK.mono ?_
    clear HCK
    rintro e w12 ⟨⟨da1, db1, dc1, dd1, pa, pn, pc, rfl, hbe2⟩, hc12⟩
    have hc13 := hc12.alloc (.cells #[.bool true, .int .i64 da1, .bool db1, .string dc1, .int .i64 dd1, .bool true, .slice pa pn pc] 39)
    have hal : Chg [] w12 (w12.alloc (.cells #[.bool true, .int .i64 da1, .bool db1, .string dc1, .int .i64 dd1, .bool true, .slice pa pn pc] 39)) := (Chg.refl _ _).alloc _
    have hbe3 := hbe2.chg hal (fun _ _ => by simp)
    have he13 := H9.out.1.chg0 hc13
    have HSE := same_entries hbe3 (H8.out.1 _ _ he13).1 (((HRN.out.good.below H9.out.2.1).rd).chg hc13) (by omega)
    have H13 : Hid (Chg [] w9 (w12.alloc (.cells #[.bool true, .int .i64 da1, .bool db1, .string dc1, .int .i64 dd1, .bool true, .slice pa pn pc] 39))) := hc13
    clear hbe3 hbe2 hc13 hal hc12 he13
    go_wp2_with fail
    refine HSE.mono ?_
    clear HSE
    rintro e w14 ⟨rfl, hc14⟩
    have H14 : Hid (Chg [] w9 w14) := H13.out.trans hc14
    clear hc14
    have A39 := HCO.out w14 (H9.out.1.chg0 H14.out)
    unfold ptr at A39
    go_wp2_with fail
    refine A39.mono ?_
    clear A39
    rintro e w15 ⟨av, rfl, hav, hrs15⟩
    obtain ⟨aa, an, ac, rfl⟩ := hav.slice
    have hc15 : Chg [] w9 w15 := H14.out.trans hrs15.chg
    have he15 := H9.out.1.chg0 hc15
    have HSS : Calls Try.prog 43 #[.slice ca8 cn8 cc8, .slice aa an ac] w15 fun e w' => e = .returned (.bool true) ∧ Chg [] w15 w' := by
      obtain ⟨X, Y, hX, hX2, hX3⟩ := H9.out.2.2.1.holds
      have hold := H9.out.2.2.1.ents_old hkl
      rw [HTR.out.2.2.2.1] at hold
      have hso := HRN.out.tree.sorted
      rw [hold] at hso
      have hcs : Sorted c.ents := hso.left.right
      rw [hX] at hav hcs
      have hgd := ((HRN.out.good.below H9.out.2.1).rd).chg hc15
      refine subset_sorted (H8.out.1 _ _ he15).2.2 hav hcs (fun e he => hgd e ?_) (by rw [← hX]; omega)
      rw [hold, hX]
      simp only [List.mem_append]
      exact .inl (.inr (.inl (.inr he)))
    have H15 : Hid (Chg [] w9 w15) := hc15
    clear hav hrs15 hc15 he15
    go_wp2_with fail
    refine HSS.mono ?_
    clear HSS
    rintro e w16 ⟨rfl, hc16⟩
    have H16 : Hid (Chg [] w9 w16) := H15.out.trans hc16
    clear hc16
    have hA16 := HAC.out w16 (H9.out.1.chg0 H16.out)
    unfold ptr at hA16
    go_wp2_with fail
    refine hA16.2.mono ?_
    rintro e w17 ⟨rfl, rfl⟩
    have HF : Hid (Below w.heap.size w w16) := hbW.out.trans ((H9.out.2.1.trans (below0 (by have := H9.out.2.1.size; omega) H16.out)).mono hwt.out)
    have hc016 : w16.cell? ⟨tb, 0, none⟩ = some (ptr b) := H16.out.cell H9.out.2.2.2.2.2 (by simp)
    have he16 := H9.out.1.chg0 H16.out
    have HDT := dump_tree tb w16 (d + 1) (node b its (A ++ c :: C)) σ 1 hc016 he16.bare HTR.out.2.1.here HTR.out.2.2.1 hd64 (by rw [HTR.out.2.2.2.1]; omega)
    clear hA16 hc016 he16
    go_wp2_with fail
    refine HDT.mono ?_
    clear HDT
    rintro e w18 ⟨rv2, rfl, hrv2, hc18⟩
    obtain ⟨va9, vn9, vc9, rfl⟩ := hrv2.slice
    have hc918 : Chg [] w9 w18 := H16.out.trans hc18
    have hr1 := (H8.out.1 _ _ (H9.out.1.chg0 hc918)).2.1
    have hrd : RdR w18 (Tr.dump (node b its (A ++ c :: C)) 0) := Tr.dump_rd _ 0 1 HTR.out.2.2.1 (by rw [HTR.out.2.2.2.1]; exact ((HRN.out.good.below H9.out.2.1).rd).chg hc918)
    have HSR := same_rows hr1 hrv2 hrd (by have := Tr.dump_len _ 0 1 HTR.out.2.2.1; rw [HTR.out.2.2.2.1] at this; omega)
    have H18 : Hid (Chg [] w9 w18) := hc918
    clear hr1 hrd hrv2 hc18 hc918
    go_wp2_with fail
    refine HSR.mono ?_
    clear HSR
    rintro e w19 ⟨rfl, hc19⟩
    have HF2 : Hid (Below w.heap.size w w19) := hbW.out.trans ((H9.out.2.1.trans (below0 (by have := H9.out.2.1.size; omega) (H18.out.trans hc19))).mono hwt.out)
    clear hc19
    go_wp2_with fail
    go_ret
    exact ⟨rfl, HF2.out⟩
  · have zsp : ¬ (15 : Int) < (c.its.length : Int) := by omega
    unfold ptr at A40c A40b HGZ
    go_wp2_with fail
    refine A40c.mono ?_
    rintro e w9 ⟨rfl, rfl⟩
    clear A40c
    go_wp2_with fail
    refine A40b.mono ?_
    rintro e w9 ⟨rfl, rfl⟩
    clear A40b
    go_wp2_with fail
    refine HGZ.mono ?_
    clear HGZ
    rintro e w9 ⟨r, rfl, its', A', c', C', σ', rfl, he9, hb9, hG⟩
    rcases hG.index with hix | hix
    · have zix : (A'.length : Int) = (A.length : Int) := by omega
      have hinb : σ' b = some ⟨its', some ((A' ++ c' :: C').map Tr.root)⟩ := hG.has.here.1
      have hka := kid_alone hG.has
      have hok9 : (node b its' (A' ++ c' :: C')).Ok 0 := hG.okAt (m := 0) hl1 hl31 (hG.ok c' (List.mem_append_right _ List.mem_cons_self))
      have hi31 : its'.length ≤ 31 := hok9.2.1
      have hkl9 : (A' ++ c' :: C').length ≤ 32 := by
        have h1 := hG.klen
        omega
      have hcI9 : c'.In σ' := hG.has.here.2 c' (show c' ∈ A' ++ c' :: C' from List.mem_append_right _ List.mem_cons_self)
      have hcok9 : c'.Ok 15 := hG.ok c' (List.mem_append_right _ List.mem_cons_self)
      have hents : (node b its' (A' ++ c' :: C')).ents = es := (hG.ents hkl).trans HTR.out.2.2.2.1
      have hfull := hG.full
      have hc31 := (c'.ok_len hcok9).2
      have zf1 : (16 : Int) ≤ (c'.its.length : Int) := by omega
      have zf2 : (c'.its.length : Int) ≤ 31 := by omega
      have zi1 : (its'.length : Int) ≤ 31 := by omega
      have hb59 : Below tb w5 w9 := H8.out.2.1.trans (hb9.mono (Nat.le_succ _))
      have hc09 : w9.cell? ⟨tb, 0, none⟩ = some (ptr b) := (hb9.cell (p := ⟨tb, 0, none⟩) (Nat.lt_succ_self _)).trans H8.out.2.2
      have A18 := acc18 tb _ w9 hc09
      have A42 := child_index b (tb + 1) its' _ σ' w9 A'.length c'.root he9.bare hinb (by rw [List.length_map]; exact hkl9) hka.1 hka.2.1 hka.2.2
      have HAC : Hid (∀ W, Env F3 (tb + 1) σ' W → (Calls Try.prog 40 #[ptr c'.root] W fun e w' => e = .returned (.int .i64 (c'.its.length : Nat)) ∧ W = w') ∧ (Calls Try.prog 40 #[ptr b] W fun e w' => e = .returned (.int .i64 (its'.length : Nat)) ∧ W = w')) := fun W hW => by
        have h1 := (hW.rep _ _ hcI9.in_root).hdr
        rw [c'.nd_its] at h1
        exact ⟨acc40 c'.root _ W h1, acc40 b _ W (hW.rep b _ hinb).hdr⟩
      have HCK := check_R tb w9 b its' (A' ++ c' :: C') σ' hc09 he9.bare hG.has hok9 hd64 (by rw [hents]; exact HRN.out.tree.sorted) (by rw [hents]; omega)
      rw [hents] at HCK
      have hsub9 : c'.ents.length ≤ 4096 := by
        have h1 := (ents_len b its' (A' ++ c' :: C') hG.klen)
        rw [hents] at h1
        have h3 : c'.ents.length ≤ ((A' ++ c' :: C').map fun k => k.ents.length).sum := by
          simp only [List.map_append, List.map_cons, List.sum_append, List.sum_cons]
          omega
        omega
      have HCO : Hid (∀ W, Env F3 (tb + 1) σ' W → Calls Try.prog 39 #[ptr c'.root, .int .i64 0, .slice none 0 0] W fun e w' => ∃ v', e = .returned v' ∧ EsAt W.heap.size w' v' c'.ents ∧ RS (.slice none 0 0) W v' w') := fun W hW => by
        have h1 := coll_all d c' 15 0 (tb + 1) W.heap.size σ' W (.slice none 0 0) [] hW.bare hcI9 hcok9 (by omega) (World.ownsRow_nil _ _ _ _) (Nat.le_refl _) (by rw [List.nil_append]; omega)
        rw [List.nil_append] at h1
        exact h1
      have H9 : Hid (Env F3 (tb + 1) σ' w9 ∧ Below tb w5 w9 ∧ Grown σ σ' b its A c C its' A' c' C' ∧ (node b its' (A' ++ c' :: C')).ents = es ∧ (node b its' (A' ++ c' :: C')).Ok 0 ∧ w9.cell? ⟨tb, 0, none⟩ = some (ptr b)) := ⟨he9, hb59, hG, hents, hok9, hc09⟩
      have A40x := (HAC.out w9 he9).1
      have hz := binNil30
      have zA : (0 : Int) ≤ (A'.length : Int) := Int.natCast_nonneg _
      clear hinb hka hok9 hkl9 hcI9 hents hb59 hc09 he9 hb9 hG hcok9
      unfold ptr at A18 A42 A40x
      go_wp2_with fail
      refine A18.mono ?_
      clear A18
      rintro e w10 ⟨rfl, rfl⟩
      go_wp2_with fail
      refine A40x.mono ?_
      clear A40x
      rintro e w10 ⟨rfl, rfl⟩
      go_wp2_with fail
      refine A42.mono ?_
      clear A42
      rintro e w10 ⟨rfl, rfl⟩
      go_wp2_with fail
      refine HCK.mono ?_
      clear HCK
      rintro e w12 ⟨⟨da1, db1, dc1, dd1, pa, pn, pc, rfl, hbe2⟩, hc12⟩
      have hc13 := hc12.alloc (.cells #[.bool true, .int .i64 da1, .bool db1, .string dc1, .int .i64 dd1, .bool true, .slice pa pn pc] 39)
      have hal : Chg [] w12 (w12.alloc (.cells #[.bool true, .int .i64 da1, .bool db1, .string dc1, .int .i64 dd1, .bool true, .slice pa pn pc] 39)) := (Chg.refl _ _).alloc _
      have hbe3 := hbe2.chg hal (fun _ _ => by simp)
      have he13 := H9.out.1.chg0 hc13
      have HSE := same_entries hbe3 (H8.out.1 _ _ he13).1 (((HRN.out.good.below H9.out.2.1).rd).chg hc13) (by omega)
      have H13 : Hid (Chg [] w9 (w12.alloc (.cells #[.bool true, .int .i64 da1, .bool db1, .string dc1, .int .i64 dd1, .bool true, .slice pa pn pc] 39))) := hc13
      clear hbe3 hbe2 hc13 hal hc12 he13
      go_wp2_with fail
      refine HSE.mono ?_
      clear HSE
      rintro e w14 ⟨rfl, hc14⟩
      have H14 : Hid (Chg [] w9 w14) := H13.out.trans hc14
      clear hc14
      have A39 := HCO.out w14 (H9.out.1.chg0 H14.out)
      unfold ptr at A39
      go_wp2_with fail
      refine A39.mono ?_
      clear A39
      rintro e w15 ⟨av, rfl, hav, hrs15⟩
      obtain ⟨aa, an, ac, rfl⟩ := hav.slice
      have hc15 : Chg [] w9 w15 := H14.out.trans hrs15.chg
      have he15 := H9.out.1.chg0 hc15
      have HSS : Calls Try.prog 43 #[.slice ca8 cn8 cc8, .slice aa an ac] w15 fun e w' => e = .returned (.bool true) ∧ Chg [] w15 w' := by
        obtain ⟨X, Y, hX, hX2, hX3⟩ := H9.out.2.2.1.holds
        have hold := H9.out.2.2.1.ents_old hkl
        rw [HTR.out.2.2.2.1] at hold
        have hso := HRN.out.tree.sorted
        rw [hold] at hso
        have hcs : Sorted c'.ents := hso.left.right
        rw [hX] at hav hcs
        have hgd := ((HRN.out.good.below H9.out.2.1).rd).chg hc15
        refine subset_sorted (H8.out.1 _ _ he15).2.2 hav hcs (fun e he => hgd e ?_) (by rw [← hX]; omega)
        rw [hold, hX]
        simp only [List.mem_append]
        exact .inl (.inr (.inl (.inr he)))
      have H15 : Hid (Chg [] w9 w15) := hc15
      clear hav hrs15 hc15 he15
      go_wp2_with fail
      refine HSS.mono ?_
      clear HSS
      rintro e w16 ⟨rfl, hc16⟩
      have H16 : Hid (Chg [] w9 w16) := H15.out.trans hc16
      clear hc16
      have hA16 := HAC.out w16 (H9.out.1.chg0 H16.out)
      unfold ptr at hA16
      go_wp2_with fail
      refine hA16.2.mono ?_
      rintro e w17 ⟨rfl, rfl⟩
      have HF : Hid (Below w.heap.size w w16) := hbW.out.trans ((H9.out.2.1.trans (below0 (by have := H9.out.2.1.size; omega) H16.out)).mono hwt.out)
      rcases H9.out.2.2.1.count with hct | ⟨hct, hct2⟩
      · have zct : (its'.length : Int) = (its.length : Int) := by omega
        clear hA16
        go_wp2_with fail
        go_ret
        exact ⟨rfl, HF.out⟩
      · have zct : ¬ (its'.length : Int) = (its.length : Int) := by omega
        have zct0 : its'.length ≠ its.length := by omega
        have zct1 : (its.length : Int) - 1 = (its'.length : Int) := by omega
        have zct2 : (c'.its.length : Int) = 31 := by omega
        go_wp2_with fail
        refine hA16.1.mono ?_
        clear hA16
        rintro e w17 ⟨rfl, rfl⟩
        go_wp2_with fail
        go_ret
        exact ⟨rfl, HF.out⟩
    · have zix : ¬ (A'.length : Int) = (A.length : Int) := by omega
      have zix2 : (A.length : Int) - 1 = (A'.length : Int) := by omega
      have zix3 : A'.length ≠ A.length := by omega
      have zA1 : (0 : Int) ≤ (A.length : Int) := Int.natCast_nonneg _
      have zA2 : (A.length : Int) ≤ 64 := by
        simp only [List.length_append, List.length_cons] at hkl
        omega
      have hinb : σ' b = some ⟨its', some ((A' ++ c' :: C').map Tr.root)⟩ := hG.has.here.1
      have hka := kid_alone hG.has
      have hok9 : (node b its' (A' ++ c' :: C')).Ok 0 := hG.okAt (m := 0) hl1 hl31 (hG.ok c' (List.mem_append_right _ List.mem_cons_self))
      have hi31 : its'.length ≤ 31 := hok9.2.1
      have hkl9 : (A' ++ c' :: C').length ≤ 32 := by
        have h1 := hG.klen
        omega
      have hcI9 : c'.In σ' := hG.has.here.2 c' (show c' ∈ A' ++ c' :: C' from List.mem_append_right _ List.mem_cons_self)
      have hcok9 : c'.Ok 15 := hG.ok c' (List.mem_append_right _ List.mem_cons_self)
      have hents : (node b its' (A' ++ c' :: C')).ents = es := (hG.ents hkl).trans HTR.out.2.2.2.1
      have hfull := hG.full
      have hc31 := (c'.ok_len hcok9).2
      have zf1 : (16 : Int) ≤ (c'.its.length : Int) := by omega
      have zf2 : (c'.its.length : Int) ≤ 31 := by omega
      have zi1 : (its'.length : Int) ≤ 31 := by omega
      have hb59 : Below tb w5 w9 := H8.out.2.1.trans (hb9.mono (Nat.le_succ _))
      have hc09 : w9.cell? ⟨tb, 0, none⟩ = some (ptr b) := (hb9.cell (p := ⟨tb, 0, none⟩) (Nat.lt_succ_self _)).trans H8.out.2.2
      have A18 := acc18 tb _ w9 hc09
      have A42 := child_index b (tb + 1) its' _ σ' w9 A'.length c'.root he9.bare hinb (by rw [List.length_map]; exact hkl9) hka.1 hka.2.1 hka.2.2
      have HAC : Hid (∀ W, Env F3 (tb + 1) σ' W → (Calls Try.prog 40 #[ptr c'.root] W fun e w' => e = .returned (.int .i64 (c'.its.length : Nat)) ∧ W = w') ∧ (Calls Try.prog 40 #[ptr b] W fun e w' => e = .returned (.int .i64 (its'.length : Nat)) ∧ W = w')) := fun W hW => by
        have h1 := (hW.rep _ _ hcI9.in_root).hdr
        rw [c'.nd_its] at h1
        exact ⟨acc40 c'.root _ W h1, acc40 b _ W (hW.rep b _ hinb).hdr⟩
      have HCK := check_R tb w9 b its' (A' ++ c' :: C') σ' hc09 he9.bare hG.has hok9 hd64 (by rw [hents]; exact HRN.out.tree.sorted) (by rw [hents]; omega)
      rw [hents] at HCK
      have hsub9 : c'.ents.length ≤ 4096 := by
        have h1 := (ents_len b its' (A' ++ c' :: C') hG.klen)
        rw [hents] at h1
        have h3 : c'.ents.length ≤ ((A' ++ c' :: C').map fun k => k.ents.length).sum := by
          simp only [List.map_append, List.map_cons, List.sum_append, List.sum_cons]
          omega
        omega
      have HCO : Hid (∀ W, Env F3 (tb + 1) σ' W → Calls Try.prog 39 #[ptr c'.root, .int .i64 0, .slice none 0 0] W fun e w' => ∃ v', e = .returned v' ∧ EsAt W.heap.size w' v' c'.ents ∧ RS (.slice none 0 0) W v' w') := fun W hW => by
        have h1 := coll_all d c' 15 0 (tb + 1) W.heap.size σ' W (.slice none 0 0) [] hW.bare hcI9 hcok9 (by omega) (World.ownsRow_nil _ _ _ _) (Nat.le_refl _) (by rw [List.nil_append]; omega)
        rw [List.nil_append] at h1
        exact h1
      have H9 : Hid (Env F3 (tb + 1) σ' w9 ∧ Below tb w5 w9 ∧ Grown σ σ' b its A c C its' A' c' C' ∧ (node b its' (A' ++ c' :: C')).ents = es ∧ (node b its' (A' ++ c' :: C')).Ok 0 ∧ w9.cell? ⟨tb, 0, none⟩ = some (ptr b)) := ⟨he9, hb59, hG, hents, hok9, hc09⟩
      have A40x := (HAC.out w9 he9).1
      have hz := binNil30
      have zA : (0 : Int) ≤ (A'.length : Int) := Int.natCast_nonneg _
      clear hinb hka hok9 hkl9 hcI9 hents hb59 hc09 he9 hb9 hG hcok9
      unfold ptr at A18 A42 A40x
      go_wp2_with fail
      refine A18.mono ?_
      clear A18
      rintro e w10 ⟨rfl, rfl⟩
      go_wp2_with fail
      refine A40x.mono ?_
      clear A40x
      rintro e w10 ⟨rfl, rfl⟩
      go_wp2_with fail
      refine A42.mono ?_
      clear A42
      rintro e w10 ⟨rfl, rfl⟩
      go_wp2_with fail
      refine HCK.mono ?_
      clear HCK
      rintro e w12 ⟨⟨da1, db1, dc1, dd1, pa, pn, pc, rfl, hbe2⟩, hc12⟩
      have hc13 := hc12.alloc (.cells #[.bool true, .int .i64 da1, .bool db1, .string dc1, .int .i64 dd1, .bool true, .slice pa pn pc] 39)
      have hal : Chg [] w12 (w12.alloc (.cells #[.bool true, .int .i64 da1, .bool db1, .string dc1, .int .i64 dd1, .bool true, .slice pa pn pc] 39)) := (Chg.refl _ _).alloc _
      have hbe3 := hbe2.chg hal (fun _ _ => by simp)
      have he13 := H9.out.1.chg0 hc13
      have HSE := same_entries hbe3 (H8.out.1 _ _ he13).1 (((HRN.out.good.below H9.out.2.1).rd).chg hc13) (by omega)
      have H13 : Hid (Chg [] w9 (w12.alloc (.cells #[.bool true, .int .i64 da1, .bool db1, .string dc1, .int .i64 dd1, .bool true, .slice pa pn pc] 39))) := hc13
      clear hbe3 hbe2 hc13 hal hc12 he13
      go_wp2_with fail
      refine HSE.mono ?_
      clear HSE
      rintro e w14 ⟨rfl, hc14⟩
      have H14 : Hid (Chg [] w9 w14) := H13.out.trans hc14
      clear hc14
      have A39 := HCO.out w14 (H9.out.1.chg0 H14.out)
      unfold ptr at A39
      go_wp2_with fail
      refine A39.mono ?_
      clear A39
      rintro e w15 ⟨av, rfl, hav, hrs15⟩
      obtain ⟨aa, an, ac, rfl⟩ := hav.slice
      have hc15 : Chg [] w9 w15 := H14.out.trans hrs15.chg
      have he15 := H9.out.1.chg0 hc15
      have HSS : Calls Try.prog 43 #[.slice ca8 cn8 cc8, .slice aa an ac] w15 fun e w' => e = .returned (.bool true) ∧ Chg [] w15 w' := by
        obtain ⟨X, Y, hX, hX2, hX3⟩ := H9.out.2.2.1.holds
        have hold := H9.out.2.2.1.ents_old hkl
        rw [HTR.out.2.2.2.1] at hold
        have hso := HRN.out.tree.sorted
        rw [hold] at hso
        have hcs : Sorted c'.ents := hso.left.right
        rw [hX] at hav hcs
        have hgd := ((HRN.out.good.below H9.out.2.1).rd).chg hc15
        refine subset_sorted (H8.out.1 _ _ he15).2.2 hav hcs (fun e he => hgd e ?_) (by rw [← hX]; omega)
        rw [hold, hX]
        simp only [List.mem_append]
        exact .inl (.inr (.inl (.inr he)))
      have H15 : Hid (Chg [] w9 w15) := hc15
      clear hav hrs15 hc15 he15
      go_wp2_with fail
      refine HSS.mono ?_
      clear HSS
      rintro e w16 ⟨rfl, hc16⟩
      have H16 : Hid (Chg [] w9 w16) := H15.out.trans hc16
      clear hc16
      have hA16 := HAC.out w16 (H9.out.1.chg0 H16.out)
      unfold ptr at hA16
      go_wp2_with fail
      refine hA16.2.mono ?_
      rintro e w17 ⟨rfl, rfl⟩
      have HF : Hid (Below w.heap.size w w16) := hbW.out.trans ((H9.out.2.1.trans (below0 (by have := H9.out.2.1.size; omega) H16.out)).mono hwt.out)
      rcases H9.out.2.2.1.count with hct | ⟨hct, hct2⟩
      · have zct : (its'.length : Int) = (its.length : Int) := by omega
        clear hA16
        go_wp2_with fail
        go_ret
        exact ⟨rfl, HF.out⟩
      · have zct : ¬ (its'.length : Int) = (its.length : Int) := by omega
        have zct0 : its'.length ≠ its.length := by omega
        have zct1 : (its.length : Int) - 1 = (its'.length : Int) := by omega
        have zct2 : (c'.its.length : Int) = 31 := by omega
        go_wp2_with fail
        refine hA16.1.mono ?_
        clear hA16
        rintro e w17 ⟨rfl, rfl⟩
        go_wp2_with fail
        go_ret
        exact ⟨rfl, HF.out⟩
end Go.Proofs.Qxb6603401a
