import Derived.Test.Qxb6603401aSame
import Derived.Test.Qxb6603401aRun
namespace Go.Proofs.Qxb6603401a
open Go Go.RowKit Go.Deep
set_option linter.unusedSimpArgs false
set_option linter.unusedVariables false

set_option maxHeartbeats 2000000 in
theorem zz33 {nk kc0 nv vc0 nd dc : Nat} {ka va da : Option Addr} {K : Nat → ByteArray} {A : Nat → Option Addr} {L C : Nat → Nat} (gs : ByteArray) (ga : Option Addr) (gn gc : Nat) {w : World} (hk : Lst w (.slice ka nk kc0) nk (fun i => .string (K i))) (hv : Lst w (.slice va nv vc0) nv (fun i => .slice (A i) (L i) (C i))) :
    Calls Try.prog 33 #[.slice ka nk kc0, .slice va nv vc0, .slice da nd dc, .string gs, .slice ga gn gc] w fun e w' => w = w' ∧ ZzOk ((∀ i, i < nk → (K i).size ≤ 1048576) ∧ (∀ i, i < nv → L i ≤ 1048576) ∧ gs.size ≤ 1048576 ∧ gn ≤ 1048576) e := by
  replace hk := hk.open
  replace hv := hv.open
  have HK : Hid (nk = 0 ∨ ∃ b off, ka = some ⟨b, off, none⟩ ∧ ∀ i, i < nk → w.cell? ⟨b, off + i, none⟩ = some (.string (K i))) := hk
  have HV : Hid (nv = 0 ∨ ∃ b off, va = some ⟨b, off, none⟩ ∧ ∀ i, i < nv → w.cell? ⟨b, off + i, none⟩ = some (.slice (A i) (L i) (C i))) := hv
  clear hk hv
  go_enter Try.func33, Try.ntmps33
  by_cases n1 : nk ≤ 1048576
  rotate_left
  · go_wp2_with fail
    go_ret
    exact ⟨rfl, ZzOk.no⟩
  go_wp2_with fail
  go_loopg [11, 12] nk (fun gg t i wr => ∃ (k : Nat) (z : Int), k ≤ nk ∧ gg = nk - k ∧ t = .int .i64 z ∧ i = .int .i64 k ∧ 0 ≤ z ∧ z ≤ 1048576 ∧ (∀ j, j < k → (K j).size ≤ 1048576) ∧ w = wr)
  case atStart => exact ⟨0, nk, by omega, by omega, by first | rfl | go_num, rfl, by omega, by omega, fun j hj => by omega, rfl⟩
  case round =>
    obtain ⟨k, z, hk, hg, rfl, rfl, hz0, hz1, hal, rfl⟩ := hrel
    have HG : Hid (gk = nk - k) := hg
    have HA : Hid _ := hal
    clear hg hal
    by_cases hlt : k < nk
    · obtain e0 | ⟨b, off, rfl, hkc⟩ := HK.out
      · omega
      have h1 := hkc k hlt
      by_cases hsz : (K k).size ≤ 1048576
      rotate_left
      · go_wp2_with fail
        go_ret
        exact ⟨rfl, ZzOk.no⟩
      by_cases hto : z + ((K k).size : Int) ≤ 1048576
      rotate_left
      · go_wp2_with fail
        go_ret
        exact ⟨rfl, ZzOk.no⟩
      have HZ : Hid ((K k).size ≤ 1048576) := hsz
      go_wp2_with fail
      go_roundg (nk - (k + 1))
      case measure => have := HG.out; omega
      case rel =>
        refine ⟨k + 1, _, by omega, rfl, by go_num, rfl, by omega, hto, fun j hj => ?_, rfl⟩
        by_cases e : j = k
        · subst e; exact HZ.out
        · exact HA.out j (by omega)
    · obtain rfl : k = nk := by omega
      clear HG
      by_cases n2 : nv ≤ 1048576
      rotate_left
      · go_wp2_with fail
        go_ret
        exact ⟨rfl, ZzOk.no⟩
      by_cases n3 : z + (nv : Int) ≤ 1048576
      rotate_left
      · go_wp2_with fail
        go_ret
        exact ⟨rfl, ZzOk.no⟩
      have HA1 : Hid (∀ i, i < k → (K i).size ≤ 1048576) := HA.out
      go_wp2_with fail
      go_loopg [11, 13] nv (fun gg t i wr => ∃ (k : Nat) (z : Int), k ≤ nv ∧ gg = nv - k ∧ t = .int .i64 z ∧ i = .int .i64 k ∧ 0 ≤ z ∧ z ≤ 1048576 ∧ (∀ j, j < k → L j ≤ 1048576) ∧ w = wr)
      case atStart => exact ⟨0, z + nv, by omega, by omega, by first | rfl | go_num, rfl, by omega, by omega, fun j hj => by omega, rfl⟩
      case round =>
        clear hz0 hz1 n2 n3 hlt hk
        obtain ⟨k, z, hk, hg, rfl, rfl, hz0, hz1, hal, rfl⟩ := hrel
        have HG : Hid (gk = nv - k) := hg
        have HA : Hid _ := hal
        clear hg hal
        by_cases hlt : k < nv
        · obtain e0 | ⟨b, off, rfl, hvc⟩ := HV.out
          · omega
          have h1 := hvc k hlt
          by_cases hsz : L k ≤ 1048576
          rotate_left
          · go_wp2_with fail
            go_ret
            exact ⟨rfl, ZzOk.no⟩
          by_cases hto : z + (L k : Int) ≤ 1048576
          rotate_left
          · go_wp2_with fail
            go_ret
            exact ⟨rfl, ZzOk.no⟩
          have HZ : Hid (L k ≤ 1048576) := hsz
          go_wp2_with fail
          go_roundg (nv - (k + 1))
          case measure => have := HG.out; omega
          case rel =>
            refine ⟨k + 1, _, by omega, rfl, by go_num, rfl, by omega, hto, fun j hj => ?_, rfl⟩
            by_cases e : j = k
            · subst e; exact HZ.out
            · exact HA.out j (by omega)
        · obtain rfl : k = nv := by omega
          by_cases n4 : nd ≤ 1048576
          rotate_left
          · go_wp2_with fail
            go_ret
            exact ⟨rfl, ZzOk.no⟩
          by_cases n5 : z + (nd : Int) ≤ 1048576
          rotate_left
          · go_wp2_with fail
            go_ret
            exact ⟨rfl, ZzOk.no⟩
          by_cases n6 : gs.size ≤ 1048576
          rotate_left
          · go_wp2_with fail
            go_ret
            exact ⟨rfl, ZzOk.no⟩
          by_cases n7 : z + (nd : Int) + (gs.size : Int) ≤ 1048576
          rotate_left
          · go_wp2_with fail
            go_ret
            exact ⟨rfl, ZzOk.no⟩
          by_cases n8 : gn ≤ 1048576
          rotate_left
          · go_wp2_with fail
            go_ret
            exact ⟨rfl, ZzOk.no⟩
          by_cases n9 : z + (nd : Int) + (gs.size : Int) + (gn : Int) ≤ 1048576
          rotate_left
          · go_wp2_with fail
            go_ret
            exact ⟨rfl, ZzOk.no⟩
          go_wp2_with fail
          go_ret
          exact ⟨rfl, ZzOk.yes ⟨HA1.out, HA.out, n6, n8⟩⟩

/-! ### A key that is not there -/
theorem split_fresh (k : ByteArray) : ∀ (es : List It), Sorted es → (∀ e ∈ es, e.key ≠ k) → es = (es.filter fun e => decide (kc e.key k < 0)) ++ (es.filter fun e => decide (kc k e.key < 0))
  | [], _, _ => rfl
  | e :: es, hs, ha => by
    have ih := split_fresh k es (List.pairwise_cons.1 hs).2 (fun x hx => ha x (List.mem_cons_of_mem _ hx))
    have hne : kc e.key k ≠ 0 := fun h => ha e List.mem_cons_self (kc_zero h)
    have hsw := kc_swap e.key k
    by_cases hl : kc e.key k < 0
    · rw [List.filter_cons, List.filter_cons, if_pos (by simpa using hl), if_neg (by simp; omega), List.cons_append, ← ih]
    · have hg : kc k e.key < 0 := by omega
      have h1 : es.filter (fun e => decide (kc e.key k < 0)) = [] := filter_none (fun x hx => by
        have := (List.pairwise_cons.1 hs).1 x hx
        have h2 := kc_trans hg this
        have h3 := kc_swap x.key k
        simp only [decide_eq_false_iff_not]
        omega)
      rw [List.filter_cons, List.filter_cons, if_neg (by simp; omega), if_pos (by simpa using hg), h1, List.nil_append]
      rw [h1, List.nil_append] at ih
      rw [← ih]
theorem put_fresh {x : It} {es : List It} (hs : Sorted es) (ha : ∀ e ∈ es, e.key ≠ x.key) : sizeL (putL x es) = sizeL es + x.key.size + x.vn ∧ delL x.key (putL x es) = es := by
  have h := split_fresh x.key es hs ha
  constructor
  · unfold putL
    rw [sizeL_append, sizeL_cons]
    have h2 : sizeL es = sizeL (es.filter fun e => decide (kc e.key x.key < 0)) + sizeL (es.filter fun e => decide (kc x.key e.key < 0)) := by rw [← sizeL_append, ← h]
    omega
  · unfold putL
    rw [delL_append, ← List.singleton_append, delL_append, delL_one rfl, List.nil_append, delL_none (fun e he => ha e (List.mem_filter.1 he).1), delL_none (fun e he => ha e (List.mem_filter.1 he).1), ← h]
theorem field39 (a : Int) (b : Bool) (c : ByteArray) (d : Int) (oa : Option Addr) (on oc : Nat) (w : World) : (Instr.field 39 (.agg #[.bool true, .int .i64 a, .bool b, .string c, .int .i64 d, .bool true, .slice oa on oc]) 6).run Try.prog w = .ok (.slice oa on oc) w := by kernel_rfl
theorem Good.rd {B : Nat} {w : World} {es : List It} (h : Good B w es) : Rd w es := fun e he => ⟨(h e he).2.1, (h e he).2.2.toB⟩
theorem EsAt.len {E : Nat} {w : World} {a : Option Addr} {n c : Nat} {ml : List It} (h : EsAt E w (.slice a n c) ml) : n = ml.length := by
  rcases h.forms with ⟨e, rfl⟩ | ⟨g, cap, e, _⟩
  · simp only [Value.slice.injEq] at e; simp [e.2.1]
  · simp only [Value.slice.injEq] at e; exact e.2.1
theorem TreeAt.bytes {F : Keep} {tb : Nat} {w : World} {es : List It} (h : TreeAt F tb w es) : w.cell? ⟨tb, 2, none⟩ = some (.int .i64 (sizeL es : Nat)) := by
  obtain ⟨root, h1, _⟩ := h.is
  exact (Lib.cell_of_heap h1 2).trans rfl
theorem TreeAt.root {F : Keep} {tb : Nat} {w : World} {es : List It} (h : TreeAt F tb w es) : ∃ a, w.cell? ⟨tb, 0, none⟩ = some (.pointer a) ∧ a.isNone = decide (es.length = 0) := by
  obtain ⟨root, h1, h2⟩ := h.is
  have hc : w.cell? ⟨tb, 0, none⟩ = some root := (Lib.cell_of_heap h1 0).trans rfl
  rcases h2 with ⟨rfl, rfl, _⟩ | ⟨d, t, σ, rfl, he, hh, hok, rfl⟩
  · exact ⟨none, hc, rfl⟩
  · refine ⟨_, hc, ?_⟩
    have h3 := t.ok_len hok
    have h4 : t.ents.length ≠ 0 := by
      cases d with
      | zero =>
        obtain ⟨b, its⟩ := t
        show its.length ≠ 0
        have : 1 ≤ its.length := h3.1
        omega
      | succ d =>
        have := t.deep hok
        rw [Nat.pow_succ] at this
        have := Nat.one_le_two_pow (n := d)
        omega
    simp [h4]

set_option maxHeartbeats 4000000 in
set_option maxRecDepth 100000 in
theorem law6 {kv vv dv : Value} {nk nv nd : Nat} {K : Nat → ByteArray} {A : Nat → Option Addr} {L C : Nat → Nat} {D : Nat → Bool} {ga : Option Addr} {gn gc : Nat} {w : World} (hk : Lst w kv nk (fun i => .string (K i))) (hv : Lst w vv nv (fun i => .slice (A i) (L i) (C i)))
    (hd : Lst w dv nd (fun i => .bool (D i))) (hby : ∀ i, i < nv → Byt w (A i) (L i) (C i)) (gs : ByteArray) (hgb : Byt w ga gn gc) :
    Calls Try.prog 6 #[kv, vv, dv, .string gs, .slice ga gn gc] w fun e w' => e = .returned (.bool true) ∧ Below w.heap.size w w' := by
  obtain ⟨ka, kc0, rfl, hk0⟩ := hk
  obtain ⟨va, vc0, rfl, hv0⟩ := hv
  obtain ⟨da, dc, rfl, hd0⟩ := hd
  have hk : Lst w (.slice ka nk kc0) nk (fun i => .string (K i)) := ⟨_, _, rfl, hk0⟩
  have hv : Lst w (.slice va nv vc0) nv (fun i => .slice (A i) (L i) (C i)) := ⟨_, _, rfl, hv0⟩
  have hd : Lst w (.slice da nd dc) nd (fun i => .bool (D i)) := ⟨_, _, rfl, hd0⟩
  clear hk0 hv0 hd0
  have HZ := zz33 gs ga gn gc hk hv (da := da) (nd := nd) (dc := dc)
  go_enter Try.func6, Try.ntmps6
  go_wp2_with fail
  refine HZ.mono ?_
  rintro e w1 ⟨rfl, r, rfl, hr⟩
  cases r with
  | false =>
    go_wp2_with fail
    go_ret
    exact ⟨rfl, Below.refl _ _⟩
  | true =>
  obtain ⟨hks, hvs, hgs, hgn⟩ := hr rfl
  by_cases hn : nk ≤ 4096 ∧ nv ≤ 4096 ∧ nd ≤ 4096
  rotate_left
  · clear hk hv hd hks hvs hby HZ hgb
    by_cases m1 : nk ≤ 4096
    · by_cases m2 : nv ≤ 4096
      · have m3 : ¬ nd ≤ 4096 := fun m3 => hn ⟨m1, m2, m3⟩
        go_wp2_with fail
        go_ret
        exact ⟨rfl, Below.refl _ _⟩
      · go_wp2_with fail
        go_ret
        exact ⟨rfl, Below.refl _ _⟩
    · go_wp2_with fail
      go_ret
      exact ⟨rfl, Below.refl _ _⟩
  obtain ⟨n1, n2, n3⟩ := hn
  have HT := too_big hk hv (da := da) (nd := nd) (dc := dc) n1 n2 n3 (gs.size + gn) (by omega) hks hvs
  rw [Int.natCast_add] at HT
  have HKV : Hid (Lst w (.slice ka nk kc0) nk (fun i => .string (K i)) ∧ Lst w (.slice va nv vc0) nv (fun i => .slice (A i) (L i) (C i)) ∧ Lst w (.slice da nd dc) nd (fun i => .bool (D i)) ∧ (∀ i, i < nv → Byt w (A i) (L i) (C i)) ∧ (∀ i, i < nk → (K i).size ≤ 1048576) ∧ (∀ i, i < nv → L i ≤ 1048576)) := ⟨hk, hv, hd, hby, hks, hvs⟩
  clear hk hv hd hks hvs hby HZ hr
  go_wp2_with fail
  refine HT.mono ?_
  clear HT
  rintro e w1 ⟨rfl, r, rfl, _⟩
  cases r with
  | true =>
    go_wp2_with fail
    go_ret
    exact ⟨rfl, Below.refl _ _⟩
  | false =>
  go_wp2_with fail
  refine (clone_strings HKV.out.1 (by omega)).mono ?_
  rintro e w1 ⟨kv, rfl, hkl, hc1⟩
  go_wp2_with fail
  refine (clone_vals (HKV.out.2.1.chg hc1) (by omega) (fun i hi => ⟨HKV.out.2.2.2.2.2 i hi, (HKV.out.2.2.2.1 i hi).chg hc1⟩)).mono ?_
  rintro e w2 ⟨vv, A', C', rfl, hvl, hbl, hc2⟩
  go_wp2_with fail
  refine (clone_bools (HKV.out.2.2.1.chg (hc1.trans hc2)) (by omega)).mono ?_
  rintro e w3 ⟨dv, rfl, hdl, hc3⟩
  obtain ⟨zb, hzb⟩ := hgb
  go_wp2_with fail
  refine (clone_bytes (hzb.chg ((hc1.trans hc2).trans hc3)) hgn).mono ?_
  rintro e w4 ⟨bv, rfl, hbb, hc4⟩
  obtain ⟨xa, xc, rfl, hbb'⟩ := id hbb
  have hxb : Byt w4 xa gn xc := ⟨zb, hbb.toL⟩
  have hscr : Scr w4.heap.size w4 kv vv dv nk nv nd K A' L C' D :=
    ⟨(hkl.toL.chg ((hc2.trans hc3).trans hc4)).toB, (hvl.toL.chg (hc3.trans hc4)).toB, (hdl.toL.chg hc4).toB, fun i hi => ((hbl i hi).chg (hc3.trans hc4)).toBB, n1, n2, HKV.out.2.2.2.2.1, HKV.out.2.2.2.2.2⟩
  have hc04 := ((hc1.trans hc2).trans hc3).trans hc4
  obtain ⟨hsk, ka', kc', rfl, hk'⟩ := id hscr.keys
  obtain ⟨hsv, va', vc', rfl, hv'⟩ := id hscr.vals
  obtain ⟨hsd, da', dc', rfl, hd'⟩ := id hscr.dels
  clear hkl hvl hdl hbl hc1 hc2 hc3 hc4 hsk hk' hsv hv' hsd hd' HKV hbb hbb' hzb
  have HB4 : Hid (Chg [] w w4) := hc04
  have hnew : Chg [] w4 (w4.alloc (.cells #[.pointer none, .int .u64 0, .int .i64 0] 33)) := (Chg.refl _ _).alloc _
  have ht0 := tree_new w4
  have hb0 : Below w4.heap.size w4 (w4.alloc (.cells #[.pointer none, .int .u64 0, .int .i64 0] 33)) := below0 (Nat.le_refl _) hnew
  have HRS := run_script (hscr.below hb0) ht0
  have HXB : Hid (BytB w4.heap.size (w4.alloc (.cells #[.pointer none, .int .u64 0, .int .i64 0] 33)) xa gn xc) := hxb.toBB.below hb0
  have HB0 : Hid (Below w4.heap.size w4 (w4.alloc (.cells #[.pointer none, .int .u64 0, .int .i64 0] 33))) := hb0
  clear hscr hc04 hnew ht0 hb0 hxb
  go_wp2_with fail
  refine HRS.mono ?_
  clear HRS
  rintro e w5 ⟨ev, ml, es, rfl, hran⟩
  generalize htb : w4.heap.size = tb at *
  have HTB : Hid (w4.heap.size = tb) := htb
  clear htb
  generalize (w4.alloc (.cells #[.pointer none, .int .u64 0, .int .i64 0] 33)) = w40 at *
  have HMF := model_find gs hran.esAt (by have := hran.mll; omega)
  have HRN : Hid (Ran tb w40 w5 ev ml es 4096) := hran
  obtain ⟨ea, en, ec, rfl⟩ : ∃ a n c, ev = .slice a n c := by
    rcases hran.esAt.forms with ⟨rfl, _⟩ | ⟨g, cap, rfl, _⟩
    · exact ⟨_, _, _, rfl⟩
    · exact ⟨_, _, _, rfl⟩
  clear hran
  have hbW : Hid (Below w.heap.size w w5) := (below0 (Nat.le_refl _) HB4.out).trans ((HB0.out.trans HRN.out.below).mono (by rw [← HTB.out]; exact HB4.out.size))
  have hwt : Hid (w.heap.size ≤ tb) := by
    show _ ≤ _
    rw [← HTB.out]; exact HB4.out.size
  go_wp2_with fail
  refine HMF.mono ?_
  clear HMF
  rintro e w6 ⟨⟨rfl, hno⟩ | ⟨i, y, rfl, hi, hk⟩, rfl⟩
  rotate_left
  · go_wp2_with fail
    go_ret
    exact ⟨rfl, hbW.out⟩
  have hab : ∀ e ∈ es, e.key ≠ gs := fun e he => hno e ((HRN.out.mt.mem e).2 he)
  have hso := HRN.out.tree.sorted
  have hpf := put_fresh (x := ⟨gs, xa, gn, xc⟩) hso hab
  simp only at hpf
  have HPF : Hid (sizeL (putL ⟨gs, xa, gn, xc⟩ es) = sizeL es + gs.size + gn ∧ delL gs (putL ⟨gs, xa, gn, xc⟩ es) = es ∧ Sorted es) := ⟨hpf.1, hpf.2, hso⟩
  clear hab hno hpf hso
  have hln := HRN.out.ln
  have hsz := HRN.out.size
  have HCK := check_yes noKeep tb w5 es HRN.out.tree (by omega)
  go_wp2_with fail
  refine HCK.mono ?_
  clear HCK
  rintro e w6 ⟨⟨ca, cb, cc, cd, oa, on, oc, rfl, hbe⟩, hc6⟩
  have htr6 := HRN.out.tree.chg0 hc6
  have hfd := field39 ca cb cc cd oa on oc
  have HON : Hid (on = es.length) := hbe.len
  obtain ⟨F', htF, _, hesF⟩ := keep_es htr6 hbe
  have hgood6 := (HRN.out.good.below (below0 (Nat.le_of_lt HRN.out.tree.lt) hc6))
  have A19 := acc19 tb _ w6 htr6.bytes
  have HPT := put_tree F' tb gs xa gn xc w6 es htF (by omega)
  have HX6 : Hid (BytB tb w6 xa gn xc ∧ Below w.heap.size w w6 ∧ Good tb w6 es ∧ ∀ w' es', TreeAt F' tb w' es' → EsAt w5.heap.size w' (.slice oa on oc) es) :=
    ⟨(HXB.out.below HRN.out.below).below (below0 (Nat.le_of_lt HRN.out.tree.lt) hc6), hbW.out.trans (below0 (Nat.le_trans hwt.out (Nat.le_of_lt HRN.out.tree.lt)) hc6), hgood6, hesF⟩
  clear htr6 htF hesF hgood6 hbe hc6
  go_wp2_with fail
  refine A19.mono ?_
  rintro e w7 ⟨rfl, rfl⟩
  clear A19
  go_wp2_with fail
  refine HPT.mono ?_
  clear HPT
  rintro e w7 ⟨rfl, htr7, hb7⟩
  have HGT := get_tree F' tb gs w7 _ htr7
  rw [show look gs (putL ⟨gs, xa, gn, xc⟩ es) = some ⟨gs, xa, gn, xc⟩ from look_put ⟨gs, xa, gn, xc⟩ es HPF.out.2.2] at HGT
  simp only [foundVal, Option.elim, Option.isSome, It.val] at HGT
  have HX7 : Hid (TreeAt F' tb w7 (putL ⟨gs, xa, gn, xc⟩ es) ∧ Below tb w6 w7) := ⟨htr7, hb7⟩
  clear htr7 hb7
  go_wp2_with fail
  refine HGT.mono ?_
  clear HGT
  rintro e w8 ⟨rfl, hc8⟩
  have htr8 := HX7.out.1.chg0 hc8
  have hb8 : Below tb w6 w8 := HX7.out.2.trans (below0 (Nat.le_of_lt HX7.out.1.lt) hc8)
  have HSA := same_bytes (HX6.out.1.below hb8).toB hgn
  have HX8 : Hid (TreeAt F' tb w8 (putL ⟨gs, xa, gn, xc⟩ es) ∧ Below tb w6 w8) := ⟨htr8, hb8⟩
  clear htr8 hb8 hc8
  go_wp2_with fail
  refine HSA.mono ?_
  clear HSA
  rintro e w9 ⟨rfl, hc9⟩
  have htr9 := HX8.out.1.chg0 hc9
  have hb9 : Below tb w6 w9 := HX8.out.2.trans (below0 (Nat.le_of_lt HX8.out.1.lt) hc9)
  have A19 := acc19 tb _ w9 htr9.bytes
  rw [HPF.out.1] at A19
  have hce : ((sizeL es + gs.size + gn : Nat) : Int) = (sizeL es : Int) + (gs.size : Int) + (gn : Int) := by omega
  rw [hce] at A19
  have HDL := delete_tree F' tb gs w9 _ htr9 (by rw [HPF.out.1]; omega)
  rw [HPF.out.2.1] at HDL
  have HX9 : Hid (Below tb w6 w9) := hb9
  clear htr9 hb9 hc9
  go_wp2_with fail
  refine A19.mono ?_
  rintro e w10 ⟨rfl, rfl⟩
  clear A19
  go_wp2_with fail
  refine HDL.mono ?_
  clear HDL
  rintro e w10 ⟨rfl, htr10, hb10⟩
  have HGT := get_tree F' tb gs w10 _ htr10
  have hlk : look gs es = none := by
    have := look_del gs (putL ⟨gs, xa, gn, xc⟩ es)
    rw [HPF.out.2.1] at this
    exact this
  rw [hlk] at HGT
  simp only [foundVal, Option.elim, Option.isSome] at HGT
  have HX10 : Hid (TreeAt F' tb w10 es ∧ Below tb w6 w10) := ⟨htr10, HX9.out.trans hb10⟩
  clear htr10 hb10 hlk
  go_wp2_with fail
  refine HGT.mono ?_
  clear HGT
  rintro e w11 ⟨rfl, hc11⟩
  have htr11 := HX10.out.1.chg0 hc11
  have HCK := check_yes F' tb w11 es htr11 (by omega)
  have HX11 : Hid (TreeAt F' tb w11 es ∧ Below tb w6 w11) := ⟨htr11, HX10.out.2.trans (below0 (Nat.le_of_lt HX10.out.1.lt) hc11)⟩
  clear htr11 hc11
  go_wp2_with fail
  refine HCK.mono ?_
  clear HCK
  rintro e w12 ⟨⟨da1, db1, dc1, dd1, pa, pn, pc, rfl, hbe2⟩, hc12⟩
  have hc13 := hc12.alloc (.cells #[.bool true, .int .i64 da1, .bool db1, .string dc1, .int .i64 dd1, .bool true, .slice pa pn pc] 39)
  have hal : Chg [] w12 (w12.alloc (.cells #[.bool true, .int .i64 da1, .bool db1, .string dc1, .int .i64 dd1, .bool true, .slice pa pn pc] 39)) := (Chg.refl _ _).alloc _
  have htr13 := HX11.out.1.chg0 hc13
  have hbe3 := hbe2.chg hal (fun _ _ => by simp)
  have hb13 := HX11.out.2.trans (below0 (Nat.le_of_lt HX11.out.1.lt) hc13)
  have HSE := same_entries hbe3 (HX6.out.2.2.2 _ _ htr13) (HX6.out.2.2.1.below hb13).rd (by omega)
  have HX13 : Hid (TreeAt F' tb (w12.alloc (.cells #[.bool true, .int .i64 da1, .bool db1, .string dc1, .int .i64 dd1, .bool true, .slice pa pn pc] 39)) es ∧ Below tb w6 (w12.alloc (.cells #[.bool true, .int .i64 da1, .bool db1, .string dc1, .int .i64 dd1, .bool true, .slice pa pn pc] 39))) := ⟨htr13, hb13⟩
  clear htr13 hbe3 hbe2 hb13 hc13 hal hc12
  go_wp2_with fail
  refine HSE.mono ?_
  clear HSE
  rintro e w14 ⟨rfl, hc14⟩
  have htr14 := HX13.out.1.chg0 hc14
  have A19 := acc19 tb _ w14 htr14.bytes
  obtain ⟨ra, hra, hrn⟩ := htr14.root
  have A18 := acc18 tb _ w14 hra
  have hz := binNil30
  have HF : Hid (Below w.heap.size w w14) := HX6.out.2.1.trans ((HX13.out.2.trans (below0 (Nat.le_of_lt HX13.out.1.lt) hc14)).mono hwt.out)
  clear htr14 hc14 hra
  rw [← HON.out] at hrn
  clear HON hln hsz
  generalize sizeL es = S at *
  go_wp2_with fail
  refine A19.mono ?_
  rintro e w15 ⟨rfl, rfl⟩
  clear A19
  go_wp2_with fail
  refine A18.mono ?_
  rintro e w15 ⟨rfl, rfl⟩
  clear A18
  by_cases h0 : on = 0
  · subst h0
    have hrn' : ra.isNone = true := by simpa using hrn
    go_wp2_with fail
    go_ret
    exact ⟨rfl, HF.out⟩
  · have hrn' : ra.isNone = false := by rw [hrn]; simp [h0]
    go_wp2_with fail
    go_ret
    exact ⟨rfl, HF.out⟩
end Go.Proofs.Qxb6603401a
