import Derived.Test.Qxb6603401aScr
import Derived.Test.Qxb6603401aDel
namespace Go.Proofs.Qxb6603401a
open Go Go.RowKit Go.Deep
set_option linter.unusedSimpArgs false
set_option linter.unusedVariables false

set_option maxHeartbeats 4000000 in
set_option maxRecDepth 100000 in
theorem law4 {kv vv dv : Value} {nk nv nd : Nat} {K : Nat → ByteArray} {A : Nat → Option Addr} {L C : Nat → Nat} {D : Nat → Bool} {w : World} (hk : Lst w kv nk (fun i => .string (K i))) (hv : Lst w vv nv (fun i => .slice (A i) (L i) (C i)))
    (hd : Lst w dv nd (fun i => .bool (D i))) (hby : ∀ i, i < nv → Byt w (A i) (L i) (C i)) :
    Calls Try.prog 4 #[kv, vv, dv] w fun e w' => e = .returned (.bool true) ∧ Below w.heap.size w w' := by
  obtain ⟨ka, kc0, rfl, hk0⟩ := hk
  obtain ⟨va, vc0, rfl, hv0⟩ := hv
  obtain ⟨da, dc, rfl, hd0⟩ := hd
  have hk : Lst w (.slice ka nk kc0) nk (fun i => .string (K i)) := ⟨_, _, rfl, hk0⟩
  have hv : Lst w (.slice va nv vc0) nv (fun i => .slice (A i) (L i) (C i)) := ⟨_, _, rfl, hv0⟩
  have hd : Lst w (.slice da nd dc) nd (fun i => .bool (D i)) := ⟨_, _, rfl, hd0⟩
  clear hk0 hv0 hd0
  have HZ := zz22 hk hv (da := da) (nd := nd) (dc := dc)
  go_enter Try.func4, Try.ntmps4
  go_wp2_with fail
  refine HZ.mono ?_
  rintro e w1 ⟨rfl, r, rfl, hr⟩
  cases r with
  | false =>
    go_wp2_with fail
    go_ret
    exact ⟨rfl, Below.refl _ _⟩
  | true =>
  obtain ⟨hks, hvs⟩ := hr rfl
  by_cases hn : nk ≤ 4096 ∧ nv ≤ 4096 ∧ nd ≤ 4096
  rotate_left
  · clear hk hv hd hks hvs hby HZ
    by_cases m1 : nk ≤ 4096
    · by_cases m2 : nv ≤ 4096
      · have m3 : ¬ nd ≤ 4096 := fun m3 => hn ⟨m1, m2, m3⟩
        go_wp2_with fail
        go_ret
        exact ⟨rfl, Below.refl _ _⟩
      · go_wp2_with fail
        go_ret
        exact ⟨rfl, Below.refl _ _⟩
    · go_wp2_with fail
      go_ret
      exact ⟨rfl, Below.refl _ _⟩
  obtain ⟨n1, n2, n3⟩ := hn
  have HT := too_big hk hv (da := da) (nd := nd) (dc := dc) n1 n2 n3 0 (by omega) hks hvs
  have HKV : Hid (Lst w (.slice ka nk kc0) nk (fun i => .string (K i)) ∧ Lst w (.slice va nv vc0) nv (fun i => .slice (A i) (L i) (C i)) ∧ Lst w (.slice da nd dc) nd (fun i => .bool (D i)) ∧ (∀ i, i < nv → Byt w (A i) (L i) (C i)) ∧ (∀ i, i < nk → (K i).size ≤ 1048576) ∧ (∀ i, i < nv → L i ≤ 1048576)) := ⟨hk, hv, hd, hby, hks, hvs⟩
  clear hk hv hd hks hvs hby HZ hr
  go_wp2_with fail
  refine HT.mono ?_
  clear HT
  rintro e w1 ⟨rfl, r, rfl, _⟩
  cases r with
  | true =>
    go_wp2_with fail
    go_ret
    exact ⟨rfl, Below.refl _ _⟩
  | false =>
  go_wp2_with fail
  refine (clone_strings HKV.out.1 (by omega)).mono ?_
  rintro e w1 ⟨kv, rfl, hkl, hc1⟩
  go_wp2_with fail
  refine (clone_vals (HKV.out.2.1.chg hc1) (by omega) (fun i hi => ⟨HKV.out.2.2.2.2.2 i hi, (HKV.out.2.2.2.1 i hi).chg hc1⟩)).mono ?_
  rintro e w2 ⟨vv, A', C', rfl, hvl, hbl, hc2⟩
  go_wp2_with fail
  refine (clone_bools (HKV.out.2.2.1.chg (hc1.trans hc2)) (by omega)).mono ?_
  rintro e w3 ⟨dv, rfl, hdl, hc3⟩
  have hscr : Scr w3.heap.size w3 kv vv dv nk nv nd K A' L C' D :=
    ⟨(hkl.toL.chg (hc2.trans hc3)).toB, (hvl.toL.chg hc3).toB, hdl.toL.toB, fun i hi => ((hbl i hi).chg hc3).toBB, n1, n2, HKV.out.2.2.2.2.1, HKV.out.2.2.2.2.2⟩
  have hc03 := (hc1.trans hc2).trans hc3
  obtain ⟨hsk, ka', kc', rfl, hk'⟩ := id hscr.keys
  obtain ⟨hsv, va', vc', rfl, hv'⟩ := id hscr.vals
  obtain ⟨hsd, da', dc', rfl, hd'⟩ := id hscr.dels
  clear hkl hvl hdl hbl hc1 hc2 hc3 hsk hk' hsv hv' hsd hd' HKV

  have HS : Hid (Scr w3.heap.size w3 (.slice ka' nk kc') (.slice va' nv vc') (.slice da' nd dc') nk nv nd K A' L C' D ∧ Chg [] w w3) := ⟨hscr, hc03⟩
  clear hscr hc03
  have HT0 : Hid (TreeAt noKeep w3.heap.size (w3.alloc (.cells #[.pointer none, .int .u64 0, .int .i64 0] 33)) []) := tree_new w3
  go_wp2_with fail
  generalize htb : w3.heap.size = tb at *
  have HTB : Hid (w3.heap.size = tb) := htb
  clear htb
  go_loopg [8] nk (fun gg i wr => ∃ (k : Nat) (es : List It), k ≤ nk ∧ gg = nk - k ∧ i = .int .i64 k ∧ TreeAt noKeep tb wr es ∧ es.length ≤ k ∧ sizeL es ≤ k * 2097152 ∧ Below tb w3 wr)
  case atStart => exact ⟨0, [], by omega, by omega, rfl, HT0.out, by simp, by simp [sizeL], (Below.refl _ _).alloc (by rw [HTB.out]; exact Nat.le_refl _) _⟩
  case round =>
    obtain ⟨k, es, hk, hg, rfl, htr, hln, hsz, hbel⟩ := hrel
    have HG : Hid (gk = nk - k) := hg
    clear hg
    by_cases hlt : k < nk
    · have hsc : Scr tb wr (.slice ka' nk kc') (.slice va' nv vc') (.slice da' nd dc') nk nv nd K A' L C' D := HS.out.1.below hbel
      have hksz := hsc.ks k hlt
      have hisd := is_delete hsc.dels.toL k
      have hopv := op_value hsc.vals.toL k
      rw [opv_val nv A' L C' (K k) k] at hopv
      have hov := hsc.opv (K k) k
      have hok := opv_key nv A' L C' (K k) k
      obtain e0 | ⟨b, off, rfl, hkc⟩ := hsc.keys.toL.open
      · omega
      have h1 := hkc k hlt
      have HSC : Hid (Scr tb wr (.slice (some ⟨b, off, none⟩) nk kc') (.slice va' nv vc') (.slice da' nd dc') nk nv nd K A' L C' D ∧ Below tb w3 wr ∧ TreeAt noKeep tb wr es) := ⟨hsc, hbel, htr⟩
      have HN : Hid (es.length ≤ k ∧ sizeL es ≤ k * 2097152 ∧ k < nk ∧ nk ≤ 4096 ∧ (K k).size ≤ 1048576) := ⟨hln, hsz, hlt, n1, hksz⟩
      clear hkc hsc hbel htr
      generalize hkk : K k = key at *
      generalize hx : opv nv A' L C' key k = x at *
      obtain ⟨xk, xa, xn, xc⟩ := x
      simp only at hok hov hopv
      subst hok
      clear hkk hx
      generalize (decide (k < nd) && D k) = isd at *
      cases isd with
      | true =>
        clear hopv hov
        have HDL := delete_tree noKeep tb xk wr es HSC.out.2.2 (by have := HN.out; omega)
        clear hln hsz
        go_wp2_with fail
        refine hisd.mono ?_
        rintro e w4 ⟨rfl, rfl⟩
        go_wp2_with fail
        refine HDL.mono ?_
        rintro e w5 ⟨rfl, htr5, hb5⟩
        have HGT := get_tree noKeep tb xk w5 _ htr5
        rw [look_del] at HGT
        simp only [foundVal, Option.elim, Option.isSome] at HGT
        go_wp2_with fail
        refine HGT.mono ?_
        rintro e w6 ⟨rfl, hc6⟩
        have HX : Hid (TreeAt noKeep tb w6 (delL xk es) ∧ Below tb w3 w6 ∧ (delL xk es).length ≤ k + 1 ∧ sizeL (delL xk es) ≤ (k + 1) * 2097152) :=
          ⟨htr5.chg0 hc6, (HSC.out.2.1.trans hb5).trans (below0 (Nat.le_trans HSC.out.1.keys.1 hb5.size) hc6), by have := delL_length xk es; have := HN.out; omega, by have := sizeL_del_le xk es; have := HN.out; omega⟩
        clear htr5 hb5 HGT HDL hisd hc6
        go_wp2_with fail
        refine (check_no noKeep tb w6 _ HX.out.1 (by have := HN.out; have := HX.out.2.2.1; omega)).mono ?_
        rintro e w7 ⟨⟨ca, cb, cc, cd, rfl⟩, hc7⟩
        have HC7 : Hid (Chg [] w6 w7) := hc7
        clear hc7
        go_wp2_with fail
        go_roundg (nk - (k + 1))
        case measure => have := HG.out; omega
        case rel =>
          have hc9 := HC7.out.alloc (.cells #[.bool true, .int .i64 ca, .bool cb, .string cc, .int .i64 cd, .bool false, .slice none 0 0] 39)
          exact ⟨k + 1, _, by omega, rfl, by go_num, HX.out.1.chg0 hc9, HX.out.2.2.1, HX.out.2.2.2, HX.out.2.1.trans (below0 (by have := HX.out.2.1.size; have := HTB.out; omega) hc9)⟩
      | false =>
        have HPT := put_tree noKeep tb xk xa xn xc wr es HSC.out.2.2 (by have := HN.out; omega)
        have HSB := hov
        clear hln hsz hov
        go_wp2_with fail
        refine hisd.mono ?_
        rintro e w4 ⟨rfl, rfl⟩
        go_wp2_with fail
        refine hopv.mono ?_
        rintro e w4 ⟨rfl, rfl⟩
        go_wp2_with fail
        refine HPT.mono ?_
        rintro e w5 ⟨rfl, htr5, hb5⟩
        have HGT := get_tree noKeep tb xk w5 _ htr5
        rw [show look xk (putL ⟨xk, xa, xn, xc⟩ es) = some ⟨xk, xa, xn, xc⟩ from look_put ⟨xk, xa, xn, xc⟩ es HSC.out.2.2.sorted] at HGT
        simp only [foundVal, Option.elim, Option.isSome, It.val] at HGT
        go_wp2_with fail
        refine HGT.mono ?_
        rintro e w6 ⟨rfl, hc6⟩
        have hb6 : Below tb wr w6 := hb5.trans (below0 (Nat.le_trans HSC.out.1.keys.1 hb5.size) hc6)
        have HSA := same_bytes (HSB.2.below hb6).toB HSB.1
        have htr6 := htr5.chg0 hc6
        have HX6 : Hid (TreeAt noKeep tb w6 (putL ⟨xk, xa, xn, xc⟩ es) ∧ Below tb wr w6) := ⟨htr6, hb6⟩
        have hxn := HSB.1
        clear htr5 hb5 HGT HPT hisd hc6 hopv HSB hb6 htr6
        go_wp2_with fail
        refine HSA.mono ?_
        rintro e w8 ⟨rfl, hc8⟩
        have HX : Hid (TreeAt noKeep tb w8 (putL ⟨xk, xa, xn, xc⟩ es) ∧ Below tb w3 w8 ∧ (putL ⟨xk, xa, xn, xc⟩ es).length ≤ k + 1 ∧ sizeL (putL ⟨xk, xa, xn, xc⟩ es) ≤ (k + 1) * 2097152) :=
          ⟨HX6.out.1.chg0 hc8, (HSC.out.2.1.trans HX6.out.2).trans (below0 (Nat.le_trans HSC.out.1.keys.1 HX6.out.2.size) hc8), by have := putL_length ⟨xk, xa, xn, xc⟩ es HSC.out.2.2.sorted; have := HN.out; omega, by have h9 := sizeL_put_le ⟨xk, xa, xn, xc⟩ es; simp only at h9; have := HN.out; omega⟩
        clear HX6 hc8 HSA
        go_wp2_with fail
        refine (check_no noKeep tb w8 _ HX.out.1 (by have := HN.out; have := HX.out.2.2.1; omega)).mono ?_
        rintro e w7 ⟨⟨ca, cb, cc, cd, rfl⟩, hc7⟩
        have HC7 : Hid (Chg [] w8 w7) := hc7
        clear hc7
        go_wp2_with fail
        go_roundg (nk - (k + 1))
        case measure => have := HG.out; omega
        case rel =>
          have hc9 := HC7.out.alloc (.cells #[.bool true, .int .i64 ca, .bool cb, .string cc, .int .i64 cd, .bool false, .slice none 0 0] 39)
          exact ⟨k + 1, _, by omega, rfl, by go_num, HX.out.1.chg0 hc9, HX.out.2.2.1, HX.out.2.2.2, HX.out.2.1.trans (below0 (by have := HX.out.2.1.size; have := HTB.out; omega) hc9)⟩
    · obtain rfl : k = nk := by omega
      go_wp2_with fail
      go_ret
      exact ⟨rfl, (below0 (Nat.le_refl _) HS.out.2).trans (hbel.mono (by rw [← HTB.out]; exact HS.out.2.size))⟩
end Go.Proofs.Qxb6603401a
