import Derived.Deep.RegionHeld3
import Derived.StillTail
import Derived.WalkKit
namespace Go.Proofs.Qxb6603401a
open Go Go.RowKit

/-! ### A region that draws its order: loads and pure operations are taken first, AND WHAT THEY READ MAY BE WRITTEN BY AN OPERATION THAT WAITS FOR ALL OF THEM (the kit's 'wpAnyH' asks its condition behind every operation). -/
section
variable {P : Program} {ops : Array Oper} {Q : Exit → Act → World → Prop} {md : Region.Mode} {S : World → Prop} {E : Nat → Bool}

def wpAnyT (P : Program) (md : Region.Mode) (ops : Array Oper) (Q : Exit → Act → World → Prop) (S : World → Prop) (E : Nat → Bool) : Nat → Array Bool → Act → World → Prop
  | 0, listed, a, w => Region.ready md ops listed = [] ∧ Q .normal a w
  | fuel + 1, listed, a, w =>
    (Region.ready md ops listed = [] → Q .normal a w) ∧
    ∀ i ∈ Region.ready md ops listed, wpOp P ops Q i (fun a' w' => (E i = false → S w') ∧ wpAnyT P md ops Q S E fuel (listed.setIfInBounds i true) a' w') a w

theorem wpAny_of_T : ∀ (fuel : Nat) (listed : Array Bool) (a : Act) (w : World), wpAnyT P md ops Q S E fuel listed a w → wpAny P md ops Q fuel listed a w
  | 0, _, _, _, h => h
  | fuel + 1, _, _, _, h => ⟨h.1, fun i hi => wpOp_mono (fun a' w' h' => wpAny_of_T fuel _ a' w' h'.2) (h.2 i hi)⟩

theorem wpAnyT_first {i : Nat} {oi : Oper} {v : Value} (hi : ops[i]? = some oi) (hsel : ∀ (j : Nat) (o : Oper) cs b, ops[j]? = some o → o.op ≠ .select cs b)
    (hQ : ∀ c a w, Q (.panic c) (a.put oi.dst v) w → Q (.panic c) a w) (hE : ∀ j, E j = true → Region.waitsFor md ops j i = true) :
    ∀ (fuel : Nat) (listed : Array Bool) (a : Act) (w : World),
      (∀ j oj, ops[j]? = some oj → j ≠ i → listed.getD j true = false → (∀ e ∈ oj.after, Region.binds md e = true → e.on ≠ i) → oi.apart ops oj = true) →
      i ∈ Region.ready md ops listed → YieldsIf P ops S oi v a → S w →
      wpAnyT P md ops Q S E fuel (listed.setIfInBounds i true) (a.put oi.dst v) w → wpAnyT P md ops Q S E (fuel + 1) listed a w := by
  intro fuel
  induction fuel with
  | zero =>
    intro listed a w _ hr hy hS H
    refine ⟨fun h => (by rw [h] at hr; cases hr), fun j hj => ?_⟩
    by_cases hji : j = i
    · subst hji; exact hy.wpOp hi hS ⟨fun _ => hS, H⟩
    · have := ready_mono hj hji
      rw [H.1] at this
      cases this
  | succ fuel ih =>
    intro listed a w hfree hr hy hS H
    refine ⟨fun h => (by rw [h] at hr; cases hr), fun j hj => ?_⟩
    by_cases hji : j = i
    · subst hji; exact hy.wpOp hi hS ⟨fun _ => hS, H⟩
    · have h1 := H.2 j (ready_mono hj hji)
      obtain ⟨hjun, oj, hoj, hall⟩ := mem_ready.1 hj
      have hnot : ∀ e ∈ oj.after, Region.binds md e = true → e.on ≠ i := fun e he hb heq => by
        have h1 := hall e he hb
        have h0 := (mem_ready.1 hr).1
        rw [heq] at h1
        rcases Nat.lt_or_ge i listed.size with h' | h'
        · simp [h'] at h0 h1; rw [h0] at h1; cases h1
        · simp [Array.getElem?_eq_none h'] at h1
      have hEj : E j = false := by
        cases hEE : E j with
        | false => rfl
        | true =>
          obtain ⟨oj', hoj', e, he, hb, heq⟩ := Region.waitsFor_spec (hE j hEE)
          have : oj' = oj := Option.some.inj (hoj'.symm.trans hoj)
          subst this
          exact absurd heq (hnot e he hb)
      have h2 := wpOp_putIf hoj (hfree j oj hoj hji hjun hnot) (fun cs b => hsel i oi cs b hi) (fun cs b => hsel j oj cs b hoj) hQ hy h1
      have hfree' : ∀ k ok, ops[k]? = some ok → k ≠ i → (listed.setIfInBounds j true).getD k true = false →
          (∀ e ∈ ok.after, Region.binds md e = true → e.on ≠ i) → oi.apart ops ok = true := fun k ok hk hki hun hno => by
        refine hfree k ok hk hki ?_ hno
        by_cases hjk : j = k
        · subst hjk; exact hjun
        · rw [getD_set_ne true hjk] at hun; exact hun
      refine wpOp_mono (fun a' w' h3 => ⟨h3.2.1, ih (listed.setIfInBounds j true) a' w' hfree' (ready_mono hr (Ne.symm hji)) h3.1 (h3.2.1 hEj) ?_⟩) h2
      rw [Array.setIfInBounds_comm _ _ hji]
      exact h3.2.2

/-- What is asked of the operations that are taken first, one behind the other. -/
def wpTake (P : Program) (ops : Array Oper) (S : World → Prop) : List Nat → (Act → Prop) → Act → Prop
  | [], K, a => K a
  | i :: rest, K, a => ∃ o v, ops[i]? = some o ∧ YieldsIf P ops S o v a ∧ wpTake P ops S rest K (a.put o.dst v)

theorem wpTake_nil {K : Act → Prop} {a : Act} (h : K a) : wpTake P ops S [] K a := h
theorem wpTake_cons {i d : Nat} {rest : List Nat} {K : Act → Prop} {ts : Array Value} {ds : List Deferred} {o : Oper} {v : Value} (ho : ops.toList[i]? = some o) (hd : o.dst = some d) (hw : Region.wanted o (yielded ops ts) = true)
    (hy : ∀ w, S w → (execOp (Act.eval ⟨ts, ds⟩) o).run P w = .ok (.value v) w) (h : wpTake P ops S rest K ⟨ts.setIfInBounds d v, ds⟩) : wpTake P ops S (i :: rest) K ⟨ts, ds⟩ :=
  ⟨o, v, by rw [← Array.getElem?_toList]; exact ho, .inl ⟨hw, hy⟩, by rw [hd]; exact h⟩

/-- Behind these numbers. -/
def listAll (listed : Array Bool) (T : List Nat) : Array Bool := T.foldl (fun l i => l.setIfInBounds i true) listed

/-- They may be taken in this order. -/
def takesOk (md : Region.Mode) (ops : Array Oper) (E : Nat → Bool) : Array Bool → List Nat → Bool
  | _, [] => true
  | listed, i :: rest => Region.free md ops listed i && (Region.ready md ops listed).contains i && ((List.range ops.size).all fun j => !E j || Region.waitsFor md ops j i) && takesOk md ops E (listed.setIfInBounds i true) rest

theorem wpAnyT_takes (hs : Region.noSelect ops = true) (hEs : ∀ j, ops.size ≤ j → E j = false) (hQ : ∀ c a d v w, Q (.panic c) (Act.put a d v) w → Q (.panic c) a w) :
    ∀ (T : List Nat) (fuel : Nat) (listed : Array Bool) (a : Act) (w : World), takesOk md ops E listed T = true → S w →
      wpTake P ops S T (fun a' => wpAnyT P md ops Q S E fuel (listAll listed T) a' w) a → wpAnyT P md ops Q S E (fuel + T.length) listed a w
  | [], _, _, _, _, _, _, h => h
  | i :: rest, fuel, listed, a, w, hok, hS, h => by
    simp only [takesOk, Bool.and_eq_true] at hok
    obtain ⟨⟨⟨h1, h2⟩, h3⟩, h4⟩ := hok
    obtain ⟨o, v, ho, hy, hr⟩ := h
    have ih := wpAnyT_takes hs hEs hQ rest fuel (listed.setIfInBounds i true) (a.put o.dst v) w h4 hS hr
    refine wpAnyT_first ho (Region.noSelect_spec hs) (fun c a w => hQ c a o.dst v w) (fun j hj => ?_) (fuel + rest.length) listed a w (Region.free_spec ho h1) (by simpa using h2) hy hS ih
    rw [List.all_eq_true] at h3
    rcases Nat.lt_or_ge j ops.size with hlt | hge
    · have := h3 j (by simpa using hlt)
      simpa [hj] using this
    · rw [hEs j hge] at hj; cases hj

/-- The one operation that may come up now; what follows it stands behind a letter. -/
theorem wpAnyT_one {r fuel : Nat} {o : Oper} {listed : Array Bool} {a : Act} {w : World} (hr : Region.ready md ops listed = [r]) (ho' : ops.toList[r]? = some o)
    (h : ∀ K : Act → World → Prop, Hid (∀ a' w', ((E r = false → S w') ∧ wpAnyT P md ops Q S E fuel (listed.setIfInBounds r true) a' w') → K a' w') →
      if Region.wanted o (yielded ops a.tmps) = true then o.wp P a w K Q else K (a.put o.dst undef) w) : wpAnyT P md ops Q S E (fuel + 1) listed a w := by
  have ho : ops[r]? = some o := by rw [← Array.getElem?_toList]; exact ho'
  refine ⟨fun h0 => (by rw [hr] at h0; cases h0), fun i hi => ?_⟩
  rw [hr] at hi
  simp at hi
  subst hi
  have := h _ (fun _ _ h => h)
  unfold wpOp
  simp only [ho]
  split
  · rename_i hw; rw [if_pos hw] at this; exact .inl this
  · rename_i hw; rw [if_neg hw] at this; exact this

theorem wpAnyT_done {listed : Array Bool} {a : Act} {w : World} (hr : Region.ready md ops listed = []) (h : Q .normal a w) :
    ∀ fuel, wpAnyT P md ops Q S E fuel listed a w
  | 0 => ⟨hr, h⟩
  | _ + 1 => ⟨fun _ => h, by rw [hr]; simp⟩

/-- THE BEGINNING. T: what is taken first, in this order; L: the operations that wait for all of T. -/
theorem wp_region_T (T L : List Nat) (S : World → Prop) {id : Nat} {a : Act} {w : World} (fuel : Nat) (hm : P.follows .mixedOrders = true)
    (hok : (Region.noSelect ops && (L.all fun j => decide (j < ops.size)) && decide (ops.size = fuel + T.length) && takesOk .any ops (fun j => L.contains j) (Array.replicate ops.size false) T) = true)
    (hS : S w.drew) (h : wpTake P ops S T (fun a' => wpAnyT P .any ops (NoPanic Q) S (fun j => L.contains j) fuel (listAll (Array.replicate ops.size false) T) a' w.drew) a) : (Code.region id ops true).wp P Q a w := by
  simp only [Bool.and_eq_true, decide_eq_true_eq] at hok
  obtain ⟨⟨⟨h1, h2⟩, h3⟩, h4⟩ := hok
  refine wp_region_noPanic (wp_region_any hm (wpAny_of_T (S := S) (E := fun j => L.contains j) _ _ _ _ ?_))
  have hEs : ∀ j, ops.size ≤ j → L.contains j = false := fun j hj => by
    rw [List.all_eq_true] at h2
    cases hc : L.contains j with
    | false => rfl
    | true =>
      have := h2 j (by simpa using hc)
      simp at this; omega
  have := wpAnyT_takes (P := P) (Q := NoPanic Q) h1 hEs (fun _ _ _ _ _ h => h) T fuel _ a w.drew h4 hS h
  rw [← h3] at this
  exact this

/-- MORE that may be taken now, behind others. -/
theorem wpAnyT_more (T : List Nat) (fuel : Nat) {listed : Array Bool} {a : Act} {w : World} {L : List Nat}
    (hok : (Region.noSelect ops && (L.all fun j => decide (j < ops.size)) && takesOk .any ops (fun j => L.contains j) listed T) = true) (hS : S w)
    (h : wpTake P ops S T (fun a' => wpAnyT P .any ops (NoPanic Q) S (fun j => L.contains j) fuel (listAll listed T) a' w) a) : wpAnyT P .any ops (NoPanic Q) S (fun j => L.contains j) (fuel + T.length) listed a w := by
  simp only [Bool.and_eq_true] at hok
  obtain ⟨⟨h1, h2⟩, h4⟩ := hok
  have hEs : ∀ j, ops.size ≤ j → L.contains j = false := fun j hj => by
    rw [List.all_eq_true] at h2
    cases hc : L.contains j with
    | false => rfl
    | true =>
      have := h2 j (by simpa using hc)
      simp at this; omega
  exact wpAnyT_takes (P := P) (Q := NoPanic Q) h1 hEs (fun _ _ _ _ _ h => h) T fuel _ a w h4 hS h
end
end Go.Proofs.Qxb6603401a
