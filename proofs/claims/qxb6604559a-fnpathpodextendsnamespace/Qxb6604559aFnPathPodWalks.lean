import Derived.Test.Qxb6604559aRows
import Derived.WalkKit
import Derived.WalkSpells
import Derived.WalkLawsBesides
namespace Go.Proofs.Qxb6604559a.fnPathPodExtendsNamespace
open Go.RowKit

set_option maxHeartbeats 1000000 in
theorem bytes_any (a0 a1 a2 a3 a4 a5 a6 : ByteArray) (w0 : a0.size ≤ maxLen) (w1 : a1.size ≤ maxLen) (w2 : a2.size ≤ maxLen) (w3 : a3.size ≤ maxLen) (w4 : a4.size ≤ maxLen) (w5 : a5.size ≤ maxLen) (w6 : a6.size ≤ maxLen) (w : World) :
    Calls Try.prog 4 #[.string a0, .string a1, .string a2, .string a3, .string a4, .string a5, .string a6] w fun e w' => ∃ b, e = .returned (.bool b) ∧ w = w' := by
  unfold maxLen at *
  go_enter Try.func4, Try.ntmps4
  go_wp2
  all_goals go_ret
  all_goals exact ⟨_, rfl, rfl⟩

set_option maxHeartbeats 400000 in
theorem path_pod (g c n m : ByteArray) (w : World) (hc : c.size ≤ 65536) (hn : n.size ≤ 65536) (hm : m.size ≤ 65536) :
    Calls Try.prog 5 #[.agg #[.string g, .string ⟨#[112, 111, 100]⟩, .string c, .string n, .string m]] w fun e w' => e = .returned (.string (c ++ ⟨#[47]⟩ ++ n ++ ⟨#[47]⟩ ++ m)) ∧
      w.alloc (.cells #[.string g, .string ⟨#[112, 111, 100]⟩, .string c, .string n, .string m] 24) = w' := by
  go_enter Try.func5, Try.ntmps5
  go_wp2
  go_ret
  exact ⟨rfl, rfl⟩

set_option maxHeartbeats 400000 in
theorem path_other (g k c n m : ByteArray) (w : World) (hk : (k.toList == [112, 111, 100]) = false) (hc : c.size ≤ 65536) (hn : n.size ≤ 65536) :
    Calls Try.prog 5 #[.agg #[.string g, .string k, .string c, .string n, .string m]] w fun e w' => e = .returned (.string (c ++ ⟨#[47]⟩ ++ n)) ∧
      w.alloc (.cells #[.string g, .string k, .string c, .string n, .string m] 24) = w' := by
  go_enter Try.func5, Try.ntmps5
  go_wp2
  go_ret
  exact ⟨rfl, rfl⟩

set_option maxHeartbeats 2000000 in
/-- Some string is longer than the law's own bound: it answers true at once. -/
theorem walk_long (a0 a1 a2 a3 a4 a5 a6 : ByteArray) (w0 : a0.size ≤ maxLen) (w1 : a1.size ≤ maxLen) (w2 : a2.size ≤ maxLen) (w3 : a3.size ≤ maxLen) (w4 : a4.size ≤ maxLen) (w5 : a5.size ≤ maxLen) (w6 : a6.size ≤ maxLen) (w : World)
    (h : 65536 < a0.size ∨ 65536 < a1.size ∨ 65536 < a2.size ∨ 65536 < a3.size ∨ 65536 < a4.size ∨ 65536 < a5.size ∨ 65536 < a6.size) :
    Calls Try.prog 3 #[.string a0, .string a1, .string a2, .string a3, .string a4, .string a5, .string a6] w fun e w' => e = .returned (.bool true) ∧ Grown w w' := by
  by_cases h0 : 65536 < a0.size
  · go_enter Try.func3, Try.ntmps3
    go_wp2_with (go_at_call 4; refine (bytes_any _ _ _ _ _ _ _ w0 w1 w2 w3 w4 w5 w6 _).mono ?_; rintro e w' ⟨b, rfl, rfl⟩; cases b)
    all_goals go_ret
    all_goals exact ⟨rfl, Grown.refl _⟩
  by_cases h1 : 65536 < a1.size
  · go_enter Try.func3, Try.ntmps3
    go_wp2_with (go_at_call 4; refine (bytes_any _ _ _ _ _ _ _ w0 w1 w2 w3 w4 w5 w6 _).mono ?_; rintro e w' ⟨b, rfl, rfl⟩; cases b)
    all_goals go_ret
    all_goals exact ⟨rfl, Grown.refl _⟩
  by_cases h2 : 65536 < a2.size
  · go_enter Try.func3, Try.ntmps3
    go_wp2_with (go_at_call 4; refine (bytes_any _ _ _ _ _ _ _ w0 w1 w2 w3 w4 w5 w6 _).mono ?_; rintro e w' ⟨b, rfl, rfl⟩; cases b)
    all_goals go_ret
    all_goals exact ⟨rfl, Grown.refl _⟩
  by_cases h3 : 65536 < a3.size
  · go_enter Try.func3, Try.ntmps3
    go_wp2_with (go_at_call 4; refine (bytes_any _ _ _ _ _ _ _ w0 w1 w2 w3 w4 w5 w6 _).mono ?_; rintro e w' ⟨b, rfl, rfl⟩; cases b)
    all_goals go_ret
    all_goals exact ⟨rfl, Grown.refl _⟩
  by_cases h4 : 65536 < a4.size
  · go_enter Try.func3, Try.ntmps3
    go_wp2_with (go_at_call 4; refine (bytes_any _ _ _ _ _ _ _ w0 w1 w2 w3 w4 w5 w6 _).mono ?_; rintro e w' ⟨b, rfl, rfl⟩; cases b)
    all_goals go_ret
    all_goals exact ⟨rfl, Grown.refl _⟩
  by_cases h5 : 65536 < a5.size
  · go_enter Try.func3, Try.ntmps3
    go_wp2_with (go_at_call 4; refine (bytes_any _ _ _ _ _ _ _ w0 w1 w2 w3 w4 w5 w6 _).mono ?_; rintro e w' ⟨b, rfl, rfl⟩; cases b)
    all_goals go_ret
    all_goals exact ⟨rfl, Grown.refl _⟩
  · have h6 : 65536 < a6.size := by omega
    go_enter Try.func3, Try.ntmps3
    go_wp2_with (go_at_call 4; refine (bytes_any _ _ _ _ _ _ _ w0 w1 w2 w3 w4 w5 w6 _).mono ?_; rintro e w' ⟨b, rfl, rfl⟩; cases b)
    all_goals go_ret
    all_goals exact ⟨rfl, Grown.refl _⟩

theorem not_pod : ((⟨#[110, 97, 109, 101, 115, 112, 97, 99, 101]⟩ : ByteArray).toList == [112, 111, 100]) = false := by decide +kernel

set_option maxHeartbeats 2000000 in
/-- Every string within the bound. -/
theorem walk_short (a0 a1 a2 a3 a4 a5 a6 : ByteArray) (w : World)
    (h0 : a0.size ≤ 65536) (h1 : a1.size ≤ 65536) (h2 : a2.size ≤ 65536) (h3 : a3.size ≤ 65536) (h4 : a4.size ≤ 65536) (h5 : a5.size ≤ 65536) (h6 : a6.size ≤ 65536) :
    Calls Try.prog 3 #[.string a0, .string a1, .string a2, .string a3, .string a4, .string a5, .string a6] w fun e w' => e = .returned (.bool true) ∧ Grown w w' := by
  have hb : ∀ w, Calls Try.prog 4 #[.string a0, .string a1, .string a2, .string a3, .string a4, .string a5, .string a6] w fun e w' => ∃ b, e = .returned (.bool b) ∧ w = w' := fun w =>
    bytes_any _ _ _ _ _ _ _ (by unfold maxLen; omega) (by unfold maxLen; omega) (by unfold maxLen; omega) (by unfold maxLen; omega) (by unfold maxLen; omega) (by unfold maxLen; omega) (by unfold maxLen; omega) w
  have HB : Hid (∀ w, Calls Try.prog 4 #[.string a0, .string a1, .string a2, .string a3, .string a4, .string a5, .string a6] w fun e w' => ∃ b, e = .returned (.bool b) ∧ w = w') := hb
  clear hb
  by_cases hk : (a2.toList == [112, 111, 100]) = true
  · go_enter Try.func3, Try.ntmps3
    go_wp2_with fail
    refine (HB.out _).mono ?_
    rintro e w' ⟨b, rfl, rfl⟩
    cases b
    · go_wp2_with fail
      go_ret
      exact ⟨rfl, Grown.refl _⟩
    go_wp2_with fail
    refine (path_other _ _ _ _ _ _ not_pod h3 h4).mono ?_
    rintro e w' ⟨rfl, rfl⟩
    go_wp2_with fail
    refine (path_pod _ _ _ _ _ h3 h4 h5).mono ?_
    rintro e w' ⟨rfl, rfl⟩
    go_wp2_with fail
    go_ret
    exact ⟨rfl, ((Grown.refl _).alloc _ _).alloc _ _⟩
  · have hk' : (a2.toList == [112, 111, 100]) = false := by simpa using hk
    clear hk
    go_enter Try.func3, Try.ntmps3
    go_wp2_with fail
    refine (HB.out _).mono ?_
    rintro e w' ⟨b, rfl, rfl⟩
    cases b
    · go_wp2_with fail
      go_ret
      exact ⟨rfl, Grown.refl _⟩
    go_wp2_with fail
    refine (path_other _ _ _ _ _ _ not_pod h3 h4).mono ?_
    rintro e w' ⟨rfl, rfl⟩
    go_wp2_with fail
    refine (path_pod _ _ _ _ _ h3 h4 h5).mono ?_
    rintro e w' ⟨rfl, rfl⟩
    go_wp2_with fail
    refine (path_other _ _ _ _ _ _ hk' h3 h4).mono ?_
    rintro e w' ⟨rfl, rfl⟩
    go_wp2_with fail
    go_ret
    exact ⟨rfl, (((Grown.refl _).alloc _ _).alloc _ _).alloc _ _⟩

theorem walk (a0 : ByteArray) (a1 : ByteArray) (a2 : ByteArray) (a3 : ByteArray) (a4 : ByteArray) (a5 : ByteArray) (a6 : ByteArray) (w0 : a0.size ≤ maxLen) (w1 : a1.size ≤ maxLen) (w2 : a2.size ≤ maxLen) (w3 : a3.size ≤ maxLen) (w4 : a4.size ≤ maxLen) (w5 : a5.size ≤ maxLen) (w6 : a6.size ≤ maxLen) (w : World) :
    Calls Try.prog 3 #[.string a0, .string a1, .string a2, .string a3, .string a4, .string a5, .string a6] w fun e w' => e = .returned (.bool true) ∧ Grown w w' := by
  by_cases h : a0.size ≤ 65536 ∧ a1.size ≤ 65536 ∧ a2.size ≤ 65536 ∧ a3.size ≤ 65536 ∧ a4.size ≤ 65536 ∧ a5.size ≤ 65536 ∧ a6.size ≤ 65536
  · exact walk_short _ _ _ _ _ _ _ w h.1 h.2.1 h.2.2.1 h.2.2.2.1 h.2.2.2.2.1 h.2.2.2.2.2.1 h.2.2.2.2.2.2
  · exact walk_long _ _ _ _ _ _ _ w0 w1 w2 w3 w4 w5 w6 w (by omega)
end Go.Proofs.Qxb6604559a.fnPathPodExtendsNamespace
