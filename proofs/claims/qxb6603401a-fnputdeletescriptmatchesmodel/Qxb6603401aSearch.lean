import Derived.Test.Qxb6603401aInsert
namespace Go.Proofs.Qxb6603401a
open Go Go.RowKit

theorem find75 : Extern.find Try.f75 = some Extern.BytealgCompare.compare := by kernel_rfl
theorem run_cmp75 (a b : ByteArray) (w : World) : (callFunc 75 #[.string a, .string b]).run Try.prog w = .ok (.value (.int .i64 (kc a b))) w := by
  rw [run_callFunc_extern Try.func75 (by kernel_rfl) (by kernel_rfl) (by kernel_rfl) find75, Lib.run_compareString]
  rfl

set_option maxHeartbeats 400000 in
theorem compare_any (a b : ByteArray) (w : World) : Calls Try.prog 66 #[.string a, .string b] w fun e w' => e = .returned (.int .i64 (kc a b)) ∧ w = w' := by
  have h := run_cmp75 a b
  go_enter Try.func66, Try.ntmps66
  go_wp2
  go_ret
  exact ⟨rfl, rfl⟩

set_option maxHeartbeats 400000 in
theorem closure65 (k key : ByteArray) (va : Option Addr) (vn vc : Nat) (w : World) :
    Calls Try.prog 65 #[.agg #[.string k, .slice va vn vc], .string key] w fun e w' => e = .returned (.int .i64 (kc k key)) ∧ w.alloc (.cells #[.string k, .slice va vn vc] 82) = w' := by
  go_enter Try.func65, Try.ntmps65
  go_wp2_with fail
  refine (compare_any _ _ _).mono ?_
  rintro e w' ⟨rfl, rfl⟩
  go_wp2_with fail
  go_ret
  exact ⟨rfl, rfl⟩

/-- The cells of a list of items. -/
def flat (its : List It) : List Value := its.flatMap fun x => [.string x.key, x.val]
theorem flat_length (its : List It) : (flat its).length = its.length * 2 := by
  induction its with
  | nil => rfl
  | cons x xs ih => simp only [flat, List.flatMap_cons, List.length_append, List.length_cons, List.length_nil] at *; omega
theorem flat_append (a b : List It) : flat (a ++ b) = flat a ++ flat b := by simp [flat]
theorem flat_one (x : It) : flat [x] = [.string x.key, x.val] := by simp [flat]
theorem flat_cons (x : It) (xs : List It) : flat (x :: xs) = .string x.key :: x.val :: flat xs := by simp [flat]
theorem flat_get (its : List It) : ∀ (i : Nat) (h : i < its.length), (flat its)[i * 2]? = some (.string its[i].key) ∧ (flat its)[i * 2 + 1]? = some its[i].val := by
  induction its with
  | nil => intro i h; simp at h
  | cons x xs ih =>
    intro i h
    cases i with
    | zero => simp [flat]
    | succ i =>
      have := ih i (by simpa using h)
      rw [flat_cons, show (i + 1) * 2 = i * 2 + 1 + 1 by omega]
      simpa using this
theorem flat_one_cell (its : List It) : ∀ v ∈ flat its, v.oneCell' = true := by
  intro v hv
  simp only [flat, List.mem_flatMap, List.mem_cons, List.not_mem_nil, or_false] at hv
  obtain ⟨x, _, rfl | rfl⟩ := hv <;> rfl

/-- Block b holds the items 'its'. -/
def Items (w : World) (b : Nat) (its : List It) : Prop := RowOf 82 62 w b (flat its)

theorem Items.len {w : World} {b : Nat} {its : List It} (h : Items w b its) : its.length ≤ 31 := by
  obtain ⟨sp, _, h2⟩ := h
  rw [List.length_append, flat_length] at h2
  omega
theorem Items.at {w : World} {b : Nat} {its : List It} (h : Items w b its) {i : Nat} (hi : i < its.length) : w.cell? ⟨b, i * 2, none⟩ = some (.string its[i].key) ∧ w.cell? ⟨b, i * 2 + 1, none⟩ = some its[i].val :=
  ⟨RowOf.cell h (flat_get its i hi).1, RowOf.cell h (flat_get its i hi).2⟩
theorem Items.chg {w w' : World} {b : Nat} {its : List It} (h : Items w b its) {S : List Nat} (hc : Chg S w w') (hb : b ∉ S) : Items w' b its := RowOf.chg h hc hb

/-- WHERE A KEY STANDS among sorted items. -/
structure Place (its : List It) (key : ByteArray) (i : Nat) : Prop where
  le : i ≤ its.length
  lt : ∀ j (h : j < its.length), j < i → kc its[j].key key < 0
  ge : ∀ j (h : j < its.length), i ≤ j → 0 ≤ kc its[j].key key

def foundB (its : List It) (key : ByteArray) (i : Nat) : Bool := match its[i]? with | some x => decide (x.key = key) | none => false

theorem sorted_get {its : List It} (hs : Sorted its) {i j : Nat} (hi : i < its.length) (hj : j < its.length) (h : i < j) : kc its[i].key its[j].key < 0 := List.pairwise_iff_getElem.1 hs i j hi hj h

set_option maxHeartbeats 1000000 in
theorem bsearch (b n : Nat) (its : List It) (key : ByteArray) (w : World) (hit : Items w b its) (hn : n = its.length) (hs : Sorted its) :
    Calls Try.prog 64 #[.slice (some ⟨b, 0, none⟩) n 31, .string key, .func (.func 65) #[] #[]] w fun e w' => ∃ i, e = .returned (.tuple #[.int .i64 (i : Nat), .bool (foundB its key i)]) ∧ Place its key i ∧ Chg [] w w' := by
  have hn31 : n ≤ 31 := by rw [hn]; exact hit.len
  have HN : Hid (n = its.length) := hn
  have HI : Hid (Items w b its) := hit
  clear hn hit
  go_enter Try.func64, Try.ntmps64
  go_wp2_with fail
  go_loopg [9, 10] (n + 1) (fun g x y wr => ∃ l h : Nat, x = .int .i64 l ∧ y = .int .i64 h ∧ l ≤ h ∧ h ≤ n ∧ h - l < g ∧ (∀ j (hj : j < its.length), j < l → kc its[j].key key < 0) ∧ (∀ j (hj : j < its.length), h ≤ j → 0 ≤ kc its[j].key key) ∧ Chg [] w wr)
  case atStart => exact ⟨0, n, rfl, rfl, by omega, by omega, by omega, (fun j hj hl => by omega), (fun j hj hl => by have := HN.out; omega), Chg.refl _ _⟩
  case round =>
    obtain ⟨l, h, rfl, rfl, hlh, hhn, hg, hlo, hhi, hc⟩ := hrel
    have HLO : Hid (∀ j (hj : j < its.length), j < l → kc its[j].key key < 0) := hlo
    have HHI : Hid (∀ j (hj : j < its.length), h ≤ j → 0 ≤ kc its[j].key key) := hhi
    clear hlo hhi
    by_cases hlt : l < h
    · have hmn : (l + h) / 2 < its.length := by have := HN.out; omega
      have hcell := (HI.out.chg hc (by simp)).at hmn
      obtain ⟨⟨k0, va, vn, vc⟩, hx⟩ : ∃ x : It, its[(l + h) / 2] = x := ⟨_, rfl⟩
      rw [hx] at hcell
      have hcell1 := hcell.1
      have hcell2 : wr.cell? ⟨b, (l + h) / 2 * 2 + 1, none⟩ = some (.slice va vn vc) := hcell.2
      have HX : Hid (its[(l + h) / 2].key = k0) := by show _ = _; rw [hx]
      clear hcell hx
      have hlo2 : kc k0 key < 0 → ∀ j (hj : j < its.length), j < (l + h) / 2 + 1 → kc its[j].key key < 0 := fun hk j hj hlt2 => by
        by_cases e : j = (l + h) / 2
        · subst e; rw [HX.out]; exact hk
        · have := sorted_get hs hj hmn (by omega)
          rw [HX.out] at this
          exact kc_trans this hk
      have hhi2 : 0 ≤ kc k0 key → ∀ j (hj : j < its.length), (l + h) / 2 ≤ j → 0 ≤ kc its[j].key key := fun hk j hj hge => by
        by_cases e : j = (l + h) / 2
        · subst e; rw [HX.out]; exact hk
        · have h1 := sorted_get hs hmn hj (by omega)
          rw [HX.out] at h1
          rcases Int.lt_or_le (kc its[j].key key) 0 with h2 | h2
          · have := kc_trans h1 h2; omega
          · exact h2
      have HLO2 : Hid (kc k0 key < 0 → ∀ j (hj : j < its.length), j < (l + h) / 2 + 1 → kc its[j].key key < 0) := hlo2
      have HHI2 : Hid (0 ≤ kc k0 key → ∀ j (hj : j < its.length), (l + h) / 2 ≤ j → 0 ≤ kc its[j].key key) := hhi2
      clear hlo2 hhi2
      go_wp2_with fail
      refine (closure65 _ _ _ _ _ _).mono ?_
      rintro e w' ⟨rfl, rfl⟩
      by_cases hk : kc k0 key < 0
      · go_wp2_with fail
        go_roundg (gk - 1)
        case measure => omega
        case rel => exact ⟨(l + h) / 2 + 1, h, by go_num, rfl, by omega, by omega, by omega, HLO2.out hk, HHI.out, hc.alloc _⟩
      · go_wp2_with fail
        go_roundg (gk - 1)
        case measure => omega
        case rel => exact ⟨l, (l + h) / 2, rfl, by go_num, by omega, by omega, by omega, HLO.out, HHI2.out (by omega), hc.alloc _⟩
    · obtain rfl : l = h := by omega
      have hpl : Place its key l := ⟨by rw [← HN.out]; exact hhn, HLO.out, HHI.out⟩
      have HP : Hid (Place its key l) := hpl
      by_cases hlast : l < n
      · have hmn : l < its.length := by rw [← HN.out]; exact hlast
        have hcell := (HI.out.chg hc (by simp)).at hmn
        obtain ⟨⟨k0, va, vn, vc⟩, hx⟩ : ∃ x : It, its[l] = x := ⟨_, rfl⟩
        rw [hx] at hcell
        have hcell1 := hcell.1
        have hcell2 : wr.cell? ⟨b, l * 2 + 1, none⟩ = some (.slice va vn vc) := hcell.2
        have hfb : foundB its key l = decide (k0 = key) := by simp [foundB, List.getElem?_eq_getElem hmn, hx]
        have HFB : Hid (foundB its key l = decide (kc k0 key = 0)) := by
          show _ = _
          rw [hfb]; by_cases e : k0 = key <;> simp [e, kc_zero_iff]
        clear hcell hx hfb hpl
        go_wp2_with fail
        refine (closure65 _ _ _ _ _ _).mono ?_
        rintro e w' ⟨rfl, rfl⟩
        go_wp2_with fail
        go_ret2
        refine ⟨l, ?_, HP.out, hc.alloc _⟩
        rw [HFB.out]
        simp
        rfl
      · have HFB : Hid (foundB its key l = false) := by
          show _ = _
          simp [foundB, List.getElem?_eq_none (show its.length ≤ l by rw [← HN.out]; omega)]
        clear hpl
        go_wp2_with fail
        go_ret2
        refine ⟨l, ?_, HP.out, hc⟩
        rw [HFB.out]
        rfl

set_option maxHeartbeats 400000 in
theorem search_any (b : Nat) (its : List It) (key : ByteArray) (w : World) (hit : Items w b its) (hs : Sorted its) :
    Calls Try.prog 49 #[.slice (some ⟨b, 0, none⟩) its.length 31, .string key] w fun e w' => ∃ i, e = .returned (.tuple #[.int .i64 (i : Nat), .bool (foundB its key i)]) ∧ Place its key i ∧ Chg [] w w' := by
  go_enter Try.func49, Try.ntmps49
  go_wp2_with fail
  refine (bsearch b its.length its key w hit rfl hs).mono ?_
  rintro e w' ⟨i, rfl, hp, hc⟩
  have HP : Hid (Place its key i) := hp
  clear hp
  generalize hf : foundB its key i = f
  have HF : Hid (foundB its key i = f) := hf
  clear hf
  go_wp2_with fail
  go_ret2
  exact ⟨i, by rw [HF.out]; rfl, HP.out, hc⟩
end Go.Proofs.Qxb6603401a
