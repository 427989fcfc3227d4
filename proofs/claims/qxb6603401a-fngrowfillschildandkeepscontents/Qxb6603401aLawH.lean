import Derived.Test.Qxb6603401aChild
import Derived.Test.Qxb6603401aRun
import Derived.Test.Qxb6603401aLawF
namespace Go.Proofs.Qxb6603401a
open Go Go.RowKit Go.Deep
set_option linter.unusedSimpArgs false
set_option linter.unusedVariables false

set_option maxHeartbeats 2000000 in
theorem zz44 {nk kc0 nv vc0 nd dc : Nat} {ka va da : Option Addr} {K : Nat → ByteArray} {A : Nat → Option Addr} {L C : Nat → Nat} (gi : Int) {w : World} (hk : Lst w (.slice ka nk kc0) nk (fun i => .string (K i))) (hv : Lst w (.slice va nv vc0) nv (fun i => .slice (A i) (L i) (C i))) :
    Calls Try.prog 44 #[.slice ka nk kc0, .slice va nv vc0, .slice da nd dc, .int .i64 gi] w fun e w' => w = w' ∧ ZzOk ((∀ i, i < nk → (K i).size ≤ 1048576) ∧ (∀ i, i < nv → L i ≤ 1048576)) e := by
  replace hk := hk.open
  replace hv := hv.open
  have HK : Hid (nk = 0 ∨ ∃ b off, ka = some ⟨b, off, none⟩ ∧ ∀ i, i < nk → w.cell? ⟨b, off + i, none⟩ = some (.string (K i))) := hk
  have HV : Hid (nv = 0 ∨ ∃ b off, va = some ⟨b, off, none⟩ ∧ ∀ i, i < nv → w.cell? ⟨b, off + i, none⟩ = some (.slice (A i) (L i) (C i))) := hv
  clear hk hv
  go_enter Try.func44, Try.ntmps44
  by_cases n1 : nk ≤ 1048576
  rotate_left
  · go_wp2_with fail
    go_ret
    exact ⟨rfl, ZzOk.no⟩
  go_wp2_with fail
  go_loopg [9, 10] nk (fun gg t i wr => ∃ (k : Nat) (z : Int), k ≤ nk ∧ gg = nk - k ∧ t = .int .i64 z ∧ i = .int .i64 k ∧ 0 ≤ z ∧ z ≤ 1048576 ∧ (∀ j, j < k → (K j).size ≤ 1048576) ∧ w = wr)
  case atStart => exact ⟨0, nk, by omega, by omega, by first | rfl | go_num, rfl, by omega, by omega, fun j hj => by omega, rfl⟩
  case round =>
    obtain ⟨k, z, hk, hg, rfl, rfl, hz0, hz1, hal, rfl⟩ := hrel
    have HG : Hid (gk = nk - k) := hg
    have HA : Hid _ := hal
    clear hg hal
    by_cases hlt : k < nk
    · obtain e0 | ⟨b, off, rfl, hkc⟩ := HK.out
      · omega
      have h1 := hkc k hlt
      by_cases hsz : (K k).size ≤ 1048576
      rotate_left
      · go_wp2_with fail
        go_ret
        exact ⟨rfl, ZzOk.no⟩
      by_cases hto : z + ((K k).size : Int) ≤ 1048576
      rotate_left
      · go_wp2_with fail
        go_ret
        exact ⟨rfl, ZzOk.no⟩
      have HZ : Hid ((K k).size ≤ 1048576) := hsz
      go_wp2_with fail
      go_roundg (nk - (k + 1))
      case measure => have := HG.out; omega
      case rel =>
        refine ⟨k + 1, _, by omega, rfl, by go_num, rfl, by omega, hto, fun j hj => ?_, rfl⟩
        by_cases e : j = k
        · subst e; exact HZ.out
        · exact HA.out j (by omega)
    · obtain rfl : k = nk := by omega
      clear HG
      by_cases n2 : nv ≤ 1048576
      rotate_left
      · go_wp2_with fail
        go_ret
        exact ⟨rfl, ZzOk.no⟩
      by_cases n3 : z + (nv : Int) ≤ 1048576
      rotate_left
      · go_wp2_with fail
        go_ret
        exact ⟨rfl, ZzOk.no⟩
      have HA1 : Hid (∀ i, i < k → (K i).size ≤ 1048576) := HA.out
      go_wp2_with fail
      go_loopg [9, 11] nv (fun gg t i wr => ∃ (k : Nat) (z : Int), k ≤ nv ∧ gg = nv - k ∧ t = .int .i64 z ∧ i = .int .i64 k ∧ 0 ≤ z ∧ z ≤ 1048576 ∧ (∀ j, j < k → L j ≤ 1048576) ∧ w = wr)
      case atStart => exact ⟨0, z + nv, by omega, by omega, by first | rfl | go_num, rfl, by omega, by omega, fun j hj => by omega, rfl⟩
      case round =>
        clear hz0 hz1 n2 n3 hlt hk
        obtain ⟨k, z, hk, hg, rfl, rfl, hz0, hz1, hal, rfl⟩ := hrel
        have HG : Hid (gk = nv - k) := hg
        have HA : Hid _ := hal
        clear hg hal
        by_cases hlt : k < nv
        · obtain e0 | ⟨b, off, rfl, hvc⟩ := HV.out
          · omega
          have h1 := hvc k hlt
          by_cases hsz : L k ≤ 1048576
          rotate_left
          · go_wp2_with fail
            go_ret
            exact ⟨rfl, ZzOk.no⟩
          by_cases hto : z + (L k : Int) ≤ 1048576
          rotate_left
          · go_wp2_with fail
            go_ret
            exact ⟨rfl, ZzOk.no⟩
          have HZ : Hid (L k ≤ 1048576) := hsz
          go_wp2_with fail
          go_roundg (nv - (k + 1))
          case measure => have := HG.out; omega
          case rel =>
            refine ⟨k + 1, _, by omega, rfl, by go_num, rfl, by omega, hto, fun j hj => ?_, rfl⟩
            by_cases e : j = k
            · subst e; exact HZ.out
            · exact HA.out j (by omega)
        · obtain rfl : k = nv := by omega
          by_cases n4 : nd ≤ 1048576
          rotate_left
          · go_wp2_with fail
            go_ret
            exact ⟨rfl, ZzOk.no⟩
          by_cases n5 : z + (nd : Int) ≤ 1048576
          rotate_left
          · go_wp2_with fail
            go_ret
            exact ⟨rfl, ZzOk.no⟩
          go_wp2_with fail
          go_ret
          exact ⟨rfl, ZzOk.yes ⟨HA1.out, HA.out⟩⟩

theorem keep_rows {F : Keep} {B E : Nat} {σ : Store} {w : World} {rs : List Rw} {v : Value} (he : Env F B σ w) (hv : RowsAt E w v rs) :
    ∃ F', Env F' B σ w ∧ ∀ w' σ', Env F' B σ' w' → RowsAt E w' v rs := by
  rcases hv.2 with h1 | ⟨g, cap, cur, rfl, h2, h3, h4⟩
  · exact ⟨F, he, fun w' σ' _ => ⟨hv.1, .inl h1⟩⟩
  · exact ⟨_, he.keepPut h3 (fun e => absurd e (by decide)) (by decide) (by decide), fun w' σ' he' => ⟨hv.1, .inr ⟨g, cap, cur, rfl, h2, he'.keep g _ (Keep.put_same _ _ _), h4⟩⟩⟩
theorem split_ks {d : Nat} (ks : List (Tr d)) (i : Nat) (h : i < ks.length) : ∃ A c C, ks = A ++ c :: C ∧ A.length = i :=
  ⟨ks.take i, ks[i], ks.drop (i + 1), by rw [List.getElem_cons_drop, List.take_append_drop], by rw [List.length_take]; omega⟩
theorem RdR.chg {w w' : World} {rs : List Rw} (h : RdR w rs) (hb : Chg [] w w') : RdR w' rs := fun e he => ⟨(h e he).1, (h e he).2.chg hb⟩

set_option maxHeartbeats 4000000 in
set_option maxRecDepth 100000 in
theorem law8 {kv vv dv : Value} {nk nv nd : Nat} {K : Nat → ByteArray} {A : Nat → Option Addr} {L C : Nat → Nat} {D : Nat → Bool} {w : World} (hk : Lst w kv nk (fun i => .string (K i))) (hv : Lst w vv nv (fun i => .slice (A i) (L i) (C i)))
    (hd : Lst w dv nd (fun i => .bool (D i))) (hby : ∀ i, i < nv → Byt w (A i) (L i) (C i)) (gi : Int) (hgw : (Lit.int .i64 gi).wf = true) :
    Calls Try.prog 8 #[kv, vv, dv, .int .i64 gi] w fun e w' => e = .returned (.bool true) ∧ Below w.heap.size w w' := by
  obtain ⟨ka, kc0, rfl, hk0⟩ := hk
  obtain ⟨va, vc0, rfl, hv0⟩ := hv
  obtain ⟨da, dc, rfl, hd0⟩ := hd
  have hk : Lst w (.slice ka nk kc0) nk (fun i => .string (K i)) := ⟨_, _, rfl, hk0⟩
  have hv : Lst w (.slice va nv vc0) nv (fun i => .slice (A i) (L i) (C i)) := ⟨_, _, rfl, hv0⟩
  have hd : Lst w (.slice da nd dc) nd (fun i => .bool (D i)) := ⟨_, _, rfl, hd0⟩
  clear hk0 hv0 hd0
  have HZ := zz44 gi hk hv (da := da) (nd := nd) (dc := dc)
  go_enter Try.func8, Try.ntmps8
  go_wp2_with fail
  refine HZ.mono ?_
  rintro e w1 ⟨rfl, r, rfl, hr⟩
  cases r with
  | false =>
    go_wp2_with fail
    go_ret
    exact ⟨rfl, Below.refl _ _⟩
  | true =>
  obtain ⟨hks, hvs⟩ := hr rfl
  by_cases hn : nk ≤ 4096 ∧ nv ≤ 4096 ∧ nd ≤ 4096
  rotate_left
  · clear hk hv hd hks hvs hby HZ
    by_cases m1 : nk ≤ 4096
    · by_cases m2 : nv ≤ 4096
      · have m3 : ¬ nd ≤ 4096 := fun m3 => hn ⟨m1, m2, m3⟩
        go_wp2_with fail
        go_ret
        exact ⟨rfl, Below.refl _ _⟩
      · go_wp2_with fail
        go_ret
        exact ⟨rfl, Below.refl _ _⟩
    · go_wp2_with fail
      go_ret
      exact ⟨rfl, Below.refl _ _⟩
  obtain ⟨n1, n2, n3⟩ := hn
  have HT := too_big hk hv (da := da) (nd := nd) (dc := dc) n1 n2 n3 0 (by omega) hks hvs
  have HKV : Hid (Lst w (.slice ka nk kc0) nk (fun i => .string (K i)) ∧ Lst w (.slice va nv vc0) nv (fun i => .slice (A i) (L i) (C i)) ∧ Lst w (.slice da nd dc) nd (fun i => .bool (D i)) ∧ (∀ i, i < nv → Byt w (A i) (L i) (C i)) ∧ (∀ i, i < nk → (K i).size ≤ 1048576) ∧ (∀ i, i < nv → L i ≤ 1048576)) := ⟨hk, hv, hd, hby, hks, hvs⟩
  clear hk hv hd hks hvs hby HZ hr
  go_wp2_with fail
  refine HT.mono ?_
  clear HT
  rintro e w1 ⟨rfl, r, rfl, _⟩
  cases r with
  | true =>
    go_wp2_with fail
    go_ret
    exact ⟨rfl, Below.refl _ _⟩
  | false =>
  go_wp2_with fail
  refine (clone_strings HKV.out.1 (by omega)).mono ?_
  rintro e w1 ⟨kv, rfl, hkl, hc1⟩
  go_wp2_with fail
  refine (clone_vals (HKV.out.2.1.chg hc1) (by omega) (fun i hi => ⟨HKV.out.2.2.2.2.2 i hi, (HKV.out.2.2.2.1 i hi).chg hc1⟩)).mono ?_
  rintro e w2 ⟨vv, A', C', rfl, hvl, hbl, hc2⟩
  go_wp2_with fail
  refine (clone_bools (HKV.out.2.2.1.chg (hc1.trans hc2)) (by omega)).mono ?_
  rintro e w3 ⟨dv, rfl, hdl, hc3⟩
  have hscr : Scr w3.heap.size w3 kv vv dv nk nv nd K A' L C' D :=
    ⟨(hkl.toL.chg (hc2.trans hc3)).toB, (hvl.toL.chg hc3).toB, hdl.toL.toB, fun i hi => ((hbl i hi).chg hc3).toBB, n1, n2, HKV.out.2.2.2.2.1, HKV.out.2.2.2.2.2⟩
  have hc03 := (hc1.trans hc2).trans hc3
  obtain ⟨hsk, ka', kc', rfl, hk'⟩ := id hscr.keys
  obtain ⟨hsv, va', vc', rfl, hv'⟩ := id hscr.vals
  obtain ⟨hsd, da', dc', rfl, hd'⟩ := id hscr.dels
  clear hkl hvl hdl hbl hc1 hc2 hc3 hsk hk' hsv hv' hsd hd' HKV
  have HB4 : Hid (Chg [] w w3) := hc03
  have hnew : Chg [] w3 (w3.alloc (.cells #[.pointer none, .int .u64 0, .int .i64 0] 33)) := (Chg.refl _ _).alloc _
  have ht0 := tree_new w3
  have hb0 : Below w3.heap.size w3 (w3.alloc (.cells #[.pointer none, .int .u64 0, .int .i64 0] 33)) := below0 (Nat.le_refl _) hnew
  have HRS := run_script (hscr.below hb0) ht0
  have HB0 : Hid (Below w3.heap.size w3 (w3.alloc (.cells #[.pointer none, .int .u64 0, .int .i64 0] 33))) := hb0
  clear hscr hc03 hnew ht0 hb0
  go_wp2_with fail
  refine HRS.mono ?_
  clear HRS
  rintro e w5 ⟨ev, ml, es, rfl, hran⟩
  generalize htb : w3.heap.size = tb at *
  have HTB : Hid (w3.heap.size = tb) := htb
  clear htb
  generalize (w3.alloc (.cells #[.pointer none, .int .u64 0, .int .i64 0] 33)) = w40 at *
  obtain ⟨ea, en, ec, rfl⟩ : ∃ a n c, ev = .slice a n c := by
    rcases hran.esAt.forms with ⟨rfl, _⟩ | ⟨g, cap, rfl, _⟩
    · exact ⟨_, _, _, rfl⟩
    · exact ⟨_, _, _, rfl⟩
  have HRN : Hid (Ran tb w40 w5 (.slice ea en ec) ml es 4096) := hran
  have hbW : Hid (Below w.heap.size w w5) := (below0 (Nat.le_refl _) HB4.out).trans ((HB0.out.trans HRN.out.below).mono (by rw [← HTB.out]; exact HB4.out.size))
  have hwt : Hid (w.heap.size ≤ tb) := by
    show _ ≤ _
    rw [← HTB.out]; exact HB4.out.size
  obtain ⟨root, hh0, hroot⟩ := hran.tree.is
  have hc0 : w5.cell? ⟨tb, 0, none⟩ = some root := (Lib.cell_of_heap hh0 0).trans rfl
  have hgen : Gen tb w5 := (Lib.cell_of_heap hh0 1).trans rfl
  have A18 := acc18 tb root w5 hc0
  have hz := binNil30
  have htl : tb < w5.heap.size := hran.tree.lt
  clear hran
  rcases hroot with ⟨rfl, rfl, _⟩ | ⟨d, t, σ, rfl, he, hh, hok, hen⟩
  · go_wp2_with fail
    refine A18.mono ?_
    rintro e w6 ⟨rfl, rfl⟩
    go_wp2_with fail
    go_ret
    exact ⟨rfl, hbW.out⟩
  cases d with
  | zero =>
    obtain ⟨b, its⟩ := t
    have A36 := acc36 b none 0 0 w5 (he.rep b _ hh.here).khdr
    simp only [Option.isNone] at A36
    have hrt : ptr (Tr.root (d := 0) (b, its)) = .pointer (some ⟨b + 1, 0, none⟩) := rfl
    rw [hrt] at A18
    unfold ptr at A36
    clear he hh hok hen hgen hc0 hh0 hrt
    go_wp2_with fail
    refine A18.mono ?_
    rintro e w6 ⟨rfl, rfl⟩
    go_wp2_with fail
    refine A36.mono ?_
    rintro e w6 ⟨rfl, rfl⟩
    go_wp2_with fail
    go_ret
    exact ⟨rfl, hbW.out⟩
  | succ d =>
  obtain ⟨b, its, ks⟩ := t
  have hI : σ b = some ⟨its, some (ks.map Tr.root)⟩ := hh.here.1
  have hkl : ks.length = its.length + 1 := hok.2.2.1
  have hl31 : its.length ≤ 31 := hok.2.1
  have hl1 : 1 ≤ its.length := hok.1
  have hkh : w5.cell? ⟨b + 1, 2, none⟩ = some (.slice (some ⟨b + 2, 0, none⟩) ks.length 32) := by
    have : w5.cell? ⟨b + 1, 2, none⟩ = some (.slice (some ⟨b + 2, 0, none⟩) (ks.map Tr.root).length 32) := (he.rep b _ hI).khdr
    rw [List.length_map] at this
    exact this
  have A36 := acc36 b _ _ _ w5 hkh
  have A37 := acc37 b _ _ _ w5 hkh
  simp only [Option.isNone] at A36
  have hrt : ptr (Tr.root (d := d + 1) (b, its, ks)) = .pointer (some ⟨b + 1, 0, none⟩) := rfl
  rw [hrt] at A18 hc0
  unfold ptr at A36 A37
  have hd64 : d + 1 ≤ 64 := Tr.deep64 hok (by rw [hen]; have := HRN.out.ln; omega)
  have HTR : Hid (Env noKeep (tb + 1) σ w5 ∧ Has σ (node b its ks) ∧ (node b its ks).Ok 1 ∧ (node b its ks).ents = es ∧ Gen tb w5 ∧ w5.cell? ⟨tb, 0, none⟩ = some (ptr b)) := ⟨he, hh, hok, hen, hgen, hc0⟩
  clear he hh hok hen hgen hc0 hh0 hrt hI hkh
  go_wp2_with fail
  refine A18.mono ?_
  rintro e w6 ⟨rfl, rfl⟩
  go_wp2_with fail
  refine A36.mono ?_
  rintro e w6 ⟨rfl, rfl⟩
  go_wp2_with fail
  refine A37.mono ?_
  rintro e w6 ⟨rfl, rfl⟩
  clear A18 A36 A37
  by_cases hg0 : gi < 0
  · go_wp2_with fail
    go_ret
    exact ⟨rfl, hbW.out⟩
  by_cases hg1 : gi < (ks.length : Int)
  rotate_left
  · have hg1' : (ks.length : Int) ≤ gi := by omega
    go_wp2_with fail
    go_ret
    exact ⟨rfl, hbW.out⟩
  obtain ⟨i, rfl⟩ : ∃ i : Nat, gi = (i : Int) := ⟨gi.toNat, by omega⟩
  obtain ⟨A, c, C, rfl, rfl⟩ := split_ks ks i (by omega)
  have HGW := grow_tree noKeep (tb + 1) tb b its A c C σ w5 HTR.out.2.2.2.2.1 (Nat.lt_succ_self _) HTR.out.1 HTR.out.2.1 hkl hl1 HTR.out.2.2.1.2.2.2
  have HGZ := zz_grow (Q := fun r w' => ∃ (its' : List It) (A' : List (Tr d)) (c' : Tr d) (C' : List (Tr d)) (σ' : Store), r = c'.root ∧ Env noKeep (tb + 1) σ' w' ∧ Below (tb + 1) w5 w' ∧ Grown σ σ' b its A c C its' A' c' C') (HGW.mono fun e w' ⟨its', A', c', C', σ', h1, h2⟩ => ⟨c'.root, h1, its', A', c', C', σ', rfl, h2⟩)
  clear HGW
  unfold ptr at HGZ
  generalize hcl : ((A ++ c :: C).length : Int) = CL at *
  have HCL : Hid (((A ++ c :: C).length : Int) = CL) := hcl
  clear hcl
  go_wp2_with fail
  refine HGZ.mono ?_
  clear HGZ
  rintro e w6 ⟨r, rfl, its', A', c', C', σ', rfl, he6, hb6, hG⟩
  have hin6 : σ' b = some ⟨its', some ((A' ++ c' :: C').map Tr.root)⟩ := hG.has.here.1
  have hka := kid_alone hG.has
  have hok6 : (node b its' (A' ++ c' :: C')).Ok 0 := hG.okAt (m := 0) hl1 hl31 (hG.ok c' (by simp))
  have hkl6 : (A' ++ c' :: C').length ≤ 32 := by
    have h1 := hG.klen
    have h2 := hok6.2.1
    have h3 : its'.length ≤ 31 := h2
    omega
  have A42 := child_index b (tb + 1) its' _ σ' w6 A'.length c'.root he6 hin6 (by rw [List.length_map]; exact hkl6) hka.1 hka.2.1 hka.2.2
  have hc06 : w6.cell? ⟨tb, 0, none⟩ = some (ptr b) := (hb6.cell (p := ⟨tb, 0, none⟩) (Nat.lt_succ_self _)).trans HTR.out.2.2.2.2.2
  have hg6 : Gen tb w6 := HTR.out.2.2.2.2.1.later hb6 (Nat.lt_succ_self _)
  have hents : (node b its' (A' ++ c' :: C')).ents = es := (hG.ents hkl).trans HTR.out.2.2.2.1
  have hln := HRN.out.ln
  have HDT := dump_tree tb w6 (d + 1) (node b its' (A' ++ c' :: C')) σ' 0 hc06 he6 hG.has.here hok6 hd64 (by rw [hents]; omega)
  have hcI : c'.In σ' := hG.has.here.2 c' (show c' ∈ A' ++ c' :: C' from List.mem_append_right _ List.mem_cons_self)
  have H6 : Hid (Env noKeep (tb + 1) σ' w6 ∧ Below (tb + 1) w5 w6 ∧ Has σ' (node b its' (A' ++ c' :: C')) ∧ (node b its' (A' ++ c' :: C')).Ok 0 ∧ σ' b = some ⟨its', some ((A' ++ c' :: C').map Tr.root)⟩ ∧ ((A' ++ c' :: C').map Tr.root)[A'.length]? = some c'.root ∧ σ' c'.root = some c'.nd ∧ 16 ≤ c'.its.length ∧ w6.cell? ⟨tb, 0, none⟩ = some (ptr b) ∧ Gen tb w6 ∧ (node b its' (A' ++ c' :: C')).ents = es) := ⟨he6, hb6, hG.has, hok6, hin6, hka.1, hcI.in_root, hG.full, hc06, hg6, hents⟩
  have zA : (0 : Int) ≤ (A'.length : Int) := Int.natCast_nonneg _
  clear he6 hb6 hG hin6 hka hok6 hkl6 hc06 hg6 hents hcI
  unfold ptr at A42
  go_wp2_with fail
  refine A42.mono ?_
  clear A42
  rintro e w7 ⟨rfl, rfl⟩
  go_wp2_with fail
  refine HDT.mono ?_
  clear HDT
  rintro e w7 ⟨rv, rfl, hrv, hc7⟩
  obtain ⟨va7, vn7, vc7, rfl⟩ := hrv.slice
  obtain ⟨F', heF, hkp⟩ := keep_rows (H6.out.1.chg0 hc7) hrv
  have hg7 : Gen tb w7 := hc7.cell H6.out.2.2.2.2.2.2.2.2.2.1 (by simp)
  have HGS := grow_spare F' (tb + 1) tb b A'.length c'.root its' c'.nd.its _ c'.nd.kids σ' w7 hg7 heF H6.out.2.2.2.2.1 H6.out.2.2.2.2.2.1 H6.out.2.2.2.2.2.2.1 (by rw [c'.nd_its]; exact H6.out.2.2.2.2.2.2.2.1)
  have HGZ2 := zz_grow (Q := fun r w' => r = c'.root ∧ Env F' (tb + 1) σ' w' ∧ Below (tb + 1) w7 w') (HGS.mono fun e w' ⟨h1, h2⟩ => ⟨c'.root, h1, rfl, h2⟩)
  have H7 : Hid ((∀ w' σ', Env F' (tb + 1) σ' w' → RowsAt w6.heap.size w' (.slice va7 vn7 vc7) (Tr.dump (node b its' (A' ++ c' :: C')) 0)) ∧ Chg [] w6 w7) := ⟨hkp, hc7⟩
  have hng := neq_same
  clear hrv hc7 heF hkp hg7 HGS
  unfold ptr at HGZ2
  go_wp2_with fail
  refine HGZ2.mono ?_
  clear HGZ2
  rintro e w8 ⟨r, rfl, rfl, he8, hb8⟩
  have hb78 : Below (tb + 1) w6 w8 := (below0 (by have := H6.out.2.1.size; omega) H7.out.2).trans hb8
  have hc08 : w8.cell? ⟨tb, 0, none⟩ = some (ptr b) := (hb78.cell (p := ⟨tb, 0, none⟩) (Nat.lt_succ_self _)).trans H6.out.2.2.2.2.2.2.2.2.1
  have HDT := dump_tree tb w8 (d + 1) (node b its' (A' ++ c' :: C')) σ' 0 hc08 he8.bare H6.out.2.2.1.here H6.out.2.2.2.1 hd64 (by rw [H6.out.2.2.2.2.2.2.2.2.2.2]; omega)
  have H8 : Hid (Env F' (tb + 1) σ' w8 ∧ Below (tb + 1) w6 w8) := ⟨he8, hb78⟩
  clear he8 hb8 hb78 hc08
  go_wp2_with fail
  refine HDT.mono ?_
  clear HDT
  rintro e w9 ⟨rv2, rfl, hrv2, hc9⟩
  obtain ⟨va9, vn9, vc9, rfl⟩ := hrv2.slice
  have hr1 := (H7.out.1 w8 σ' H8.out.1).chg hc9 (fun _ _ => by simp)
  have hb59 : Below tb w5 w9 := ((H6.out.2.1.trans H8.out.2).mono (Nat.le_succ _)).trans (below0 (by have := H6.out.2.1.size; have := H8.out.2.size; omega) hc9)
  have hrd : RdR w9 (Tr.dump (node b its' (A' ++ c' :: C')) 0) := Tr.dump_rd _ 0 0 H6.out.2.2.2.1 (by rw [H6.out.2.2.2.2.2.2.2.2.2.2]; exact (HRN.out.good.below hb59).rd)
  have HSR := same_rows hr1 hrv2 hrd (by have := Tr.dump_len _ 0 0 H6.out.2.2.2.1; rw [H6.out.2.2.2.2.2.2.2.2.2.2] at this; omega)
  have H9 : Hid (Below tb w5 w9) := hb59
  clear hr1 hb59 hrd hrv2 hc9
  go_wp2_with fail
  refine HSR.mono ?_
  clear HSR
  rintro e w10 ⟨rfl, hc10⟩
  have HF : Hid (Below w.heap.size w w10) := hbW.out.trans ((H9.out.trans (below0 (by have := H9.out.size; omega) hc10)).mono hwt.out)
  clear hc10
  go_wp2_with fail
  go_ret
  exact ⟨rfl, HF.out⟩
end Go.Proofs.Qxb6603401a
