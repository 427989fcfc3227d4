import Derived.Test.Qxb6603401aFind
import Derived.Deep.LoopGhost
namespace Go.Proofs.Qxb6603401a
open Go Go.RowKit

def foundVal (o : Option It) : Value := o.elim (.slice none 0 0) It.val

set_option maxHeartbeats 2000000 in
set_option maxRecDepth 100000 in
theorem lookup_tree {d : Nat} (F : Keep) (B : Nat) (t : Tr d) (m : Nat) (key : ByteArray) (σ : Store) (w : World) (he : Env F B σ w) (hI : t.In σ) (hok : t.Ok m) (hs : Sorted t.ents) :
    Calls Try.prog 55 #[ptr t.root, .string key] w fun e w' => e = .returned (.tuple #[foundVal (look key t.ents), .bool (look key t.ents).isSome]) ∧ Chg [] w w' := by
  have HE : Hid (Env F B σ w) := he
  generalize hlk : look key t.ents = lk
  have HLK : Hid (look key t.ents = lk) := hlk
  clear hlk he
  have hnn := nil77
  go_enter Try.func55, Try.ntmps55
  go_wp2_with fail
  go_loopg [0] (d + 1) (fun g x wr => ∃ (d' : Nat) (t' : Tr d') (m' : Nat), x = ptr t'.root ∧ d' < g ∧ t'.In σ ∧ t'.Ok m' ∧ Sorted t'.ents ∧ look key t'.ents = look key t.ents ∧ Chg [] w wr)
  case atStart => exact ⟨d, t, m, rfl, Nat.lt_succ_self _, hI, hok, hs, rfl, Chg.refl _ _⟩
  case round =>
    obtain ⟨d', t', m', rfl, hg, hI', hok', hs', hlk', hc⟩ := hrel
    have hN := (HE.out.chg0 hc).rep _ _ hI'.in_root
    have h1 : wr.cell? ⟨t'.root + 1, 1, none⟩ = some (.slice (some ⟨t'.root, 0, none⟩) t'.its.length 31) := by
      have := hN.hdr
      rw [t'.nd_its] at this
      exact this
    have h2 := hN.khdr
    have hits : Items wr t'.root t'.its := by
      have := hN.items
      rw [t'.nd_its] at this
      exact this
    have HSR := search_any t'.root t'.its key wr hits (t'.its_sorted hok' hs')
    have HT : Hid (t'.In σ ∧ t'.Ok m' ∧ Sorted t'.ents ∧ look key t'.ents = look key t.ents) := ⟨hI', hok', hs', hlk'⟩
    clear hN hlk' hI' hok' hs'
    unfold ptr
    generalize hrb : t'.root = rb at *
    have HRB : Hid (t'.root = rb) := hrb
    clear hrb
    go_wp2_with fail
    refine HSR.mono ?_
    rintro e w1 ⟨i, rfl, hp, hc1⟩
    have HP : Hid (Place t'.its key i) := hp
    have hile : i ≤ t'.its.length := hp.le
    have hl31 : t'.its.length ≤ 31 := hits.len
    have HIT : Hid (Items w1 rb t'.its) := hits.chg hc1 (by simp)
    have h3 := hc1.cell h1 (by simp)
    have h4 := hc1.cell h2 (by simp)
    clear hp h1 h2 hits HSR
    by_cases hf : foundB t'.its key i = true
    · obtain ⟨y, hy, hyk⟩ := found_get hf
      obtain ⟨hi, hyy⟩ := List.getElem?_eq_some_iff.1 hy
      have hat := HIT.out.at hi
      rw [hyy] at hat
      obtain ⟨ky, va, vn, vc⟩ := y
      have hat2 : w1.cell? ⟨rb, i * 2 + 1, none⟩ = some (.slice va vn vc) := hat.2
      have z1 : (0 : Int) ≤ (i : Int) := Int.natCast_nonneg _
      have z2 : (i : Int) < (t'.its.length : Int) := by omega
      have hres : look key t'.ents = some ⟨ky, va, vn, vc⟩ := by
        rw [← hyk]
        exact look_mem HT.out.2.2.1 ((t'.its_sub HT.out.2.1).subset (List.mem_of_getElem? hy))
      have HR : Hid (lk = some ⟨ky, va, vn, vc⟩) := by
        show _ = _
        rw [← HLK.out, ← HT.out.2.2.2]; exact hres
      rw [hf]
      clear hat hyy hy hyk hf hres
      go_wp2_with fail
      go_ret2
      rw [HR.out]
      exact ⟨rfl, hc.trans hc1⟩
    · have hf' : foundB t'.its key i = false := by simpa using hf
      rw [hf']
      have HF : Hid (foundB t'.its key i = false) := hf'
      clear hf hf'
      cases d' with
      | zero =>
        have h4' : w1.cell? ⟨rb + 1, 2, none⟩ = some (.slice none 0 0) := h4
        have hres : look key t'.ents = none := place_none HP.out HT.out.2.2.1 HF.out
        have HR : Hid (lk = none) := by
          show _ = _
          rw [← HLK.out, ← HT.out.2.2.2]; exact hres
        clear hres h4
        go_wp2_with fail
        go_ret2
        rw [HR.out]
        exact ⟨rfl, hc.trans hc1⟩
      | succ d' =>
        obtain ⟨b, its, ks⟩ := t'
        obtain rfl : b = rb := HRB.out
        obtain ⟨A, c, C, rfl, hA, hC, hents⟩ := node_around (b := b) HT.out.2.1 (i := i) hile
        have hkl : (A ++ c :: C).length = its.length + 1 := HT.out.2.1.2.2.1
        have hN1 := (HE.out.chg0 (hc.trans hc1)).rep _ _ HT.out.1.in_root
        have hki : i < ((A ++ c :: C).map Tr.root).length := by rw [List.length_map, hkl]; exact Nat.lt_succ_of_le hile
        have hkid := hN1.kid rfl hki
        have hkc : ((A ++ c :: C).map Tr.root)[i] = c.root := by
          have := kids_get A C c
          rw [hA, List.getElem?_eq_getElem hki] at this
          exact Option.some.inj this
        rw [hkc] at hkid
        have h4' : w1.cell? ⟨b + 1, 2, none⟩ = some (.slice (some ⟨b + 2, 0, none⟩) (its.length + 1) 32) := by
          have : w1.cell? ⟨b + 1, 2, none⟩ = some (.slice (some ⟨b + 2, 0, none⟩) ((A ++ c :: C).map Tr.root).length 32) := h4
          rw [List.length_map, hkl] at this
          exact this
        have hkid' : w1.cell? ⟨b + 2, i, none⟩ = some (.pointer (some ⟨c.root + 1, 0, none⟩)) := hkid
        have z1 : (0 : Int) ≤ (i : Int) := Int.natCast_nonneg _
        have z2 : (i : Int) < (its.length : Int) + 1 := by have : i ≤ its.length := hile; omega
        have hs' : Sorted (pre (its.take i) (A.map Tr.ents) ++ c.ents ++ post (its.drop i) (C.map Tr.ents)) := by rw [← hents]; exact HT.out.2.2.1
        have hits' : Sorted its := Tr.its_sorted (t := node b its (A ++ c :: C)) HT.out.2.1 HT.out.2.2.1
        have hres : look key c.ents = look key t.ents := by
          rw [← HT.out.2.2.2, show Tr.ents (d := d' + 1) (b, its, A ++ c :: C) = _ from hents]
          exact (look_mid (pre_lt _ _ hs'.left.left HP.out.lo) (post_gt _ _ hs'.right (HP.out.hi hits' HF.out))).symm
        have HC : Hid (c.In σ ∧ c.Ok 15 ∧ Sorted c.ents ∧ look key c.ents = look key t.ents) := ⟨HT.out.1.2 c (by simp), HT.out.2.1.2.2.2 c (by simp), hs'.left.right, hres⟩
        have h3' : w1.cell? ⟨b + 1, 1, none⟩ = some (.slice (some ⟨b, 0, none⟩) its.length 31) := h3
        clear hN1 hkid hkc h4 hki hkl hres hents hs' hits' h3
        go_wp2_with fail
        go_roundg (gk - 1)
        case measure => omega
        case rel => exact ⟨d', c, 15, rfl, by omega, HC.out.1, HC.out.2.1, HC.out.2.2.1, HC.out.2.2.2, hc.trans hc1⟩
end Go.Proofs.Qxb6603401a
