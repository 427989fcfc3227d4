import Derived.Test.Qxb6603401aLook
import Derived.Deep.DeepCutAuto
namespace Go.Proofs.Qxb6603401a
open Go Go.RowKit

def sizeL (es : List It) : Nat := (es.map fun e => e.key.size + e.vn).sum
theorem sizeL_append (a b : List It) : sizeL (a ++ b) = sizeL a + sizeL b := by simp [sizeL]
theorem sizeL_cons (x : It) (b : List It) : sizeL (x :: b) = x.key.size + x.vn + sizeL b := by simp [sizeL]

/-- A TREE IN MEMORY: block tb holds the Tree; what it holds is es. -/
structure TreeAt (F : Keep) (tb : Nat) (w : World) (es : List It) : Prop where
  sorted : Sorted es
  free : F tb = none
  is : ∃ root, w.heap[tb]? = some (.cells #[root, .int .u64 0, .int .i64 (sizeL es : Nat)] 33 (0, 0)) ∧
    ((root = .pointer none ∧ es = [] ∧ Env F (tb + 1) (fun _ => none) w) ∨ ∃ (d : Nat) (t : Tr d) (σ : Store), root = ptr t.root ∧ Env F (tb + 1) σ w ∧ Has σ t ∧ t.Ok 1 ∧ t.ents = es)

theorem TreeAt.chg0 {F : Keep} {tb : Nat} {w w' : World} {es : List It} (h : TreeAt F tb w es) (hc : Chg [] w w') : TreeAt F tb w' es := by
  obtain ⟨root, h1, h2⟩ := h.is
  refine ⟨h.sorted, h.free, root, hc.heap h1 (by simp), ?_⟩
  rcases h2 with ⟨e1, e2, e3⟩ | ⟨d, t, σ, e1, e2, e3⟩
  · exact .inl ⟨e1, e2, e3.chg0 hc⟩
  · exact .inr ⟨d, t, σ, e1, e2.chg0 hc, e3⟩

theorem lookup_nil (key : ByteArray) (w : World) : Calls Try.prog 55 #[.pointer none, .string key] w fun e w' => e = .returned (.tuple #[.slice none 0 0, .bool false]) ∧ w = w' := by
  go_enter Try.func55, Try.ntmps55
  go_wp2_with fail
  go_loopg [0] 1 (fun g x wr => 0 < g ∧ x = .pointer none ∧ w = wr)
  case atStart => exact ⟨by omega, rfl, rfl⟩
  case round =>
    obtain ⟨hg, rfl, rfl⟩ := hrel
    go_wp2_with fail
    go_ret2
    exact ⟨rfl, rfl⟩

set_option maxHeartbeats 400000 in
theorem get_tree (F : Keep) (tb : Nat) (key : ByteArray) (w : World) (es : List It) (h : TreeAt F tb w es) :
    Calls Try.prog 25 #[.pointer (some ⟨tb, 0, none⟩), .string key] w fun e w' => e = .returned (.tuple #[foundVal (look key es), .bool (look key es).isSome]) ∧ Chg [] w w' := by
  obtain ⟨root, h1, h2⟩ := h.is
  have hc : w.cell? ⟨tb, 0, none⟩ = some root := (Lib.cell_of_heap h1 0).trans rfl
  have hs := h.sorted
  clear h h1
  rcases h2 with ⟨rfl, rfl, _⟩ | ⟨d, t, σ, rfl, he, hh, hok, hen⟩
  · go_enter Try.func25, Try.ntmps25
    go_wp2_with fail
    refine (lookup_nil key w).mono ?_
    rintro e w' ⟨rfl, rfl⟩
    go_wp2_with fail
    go_ret2
    exact ⟨rfl, Chg.refl _ _⟩
  · have HL := lookup_tree F (tb + 1) t 1 key σ w he hh.here hok (by rw [hen]; exact hs)
    rw [hen] at HL
    generalize look key es = lk at *
    generalize hr : t.root = r at *
    clear he hh hok hen hs hr
    unfold ptr at *
    go_enter Try.func25, Try.ntmps25
    go_wp2_with fail
    refine HL.mono ?_
    rintro e w' ⟨rfl, hc'⟩
    generalize hv : foundVal lk = v
    generalize hb : lk.isSome = bb
    go_wp2_with fail
    go_ret2
    subst hv
    subst hb
    exact ⟨rfl, hc'⟩
end Go.Proofs.Qxb6603401a
