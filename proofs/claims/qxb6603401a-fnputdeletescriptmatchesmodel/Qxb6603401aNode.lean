import Derived.Test.Qxb6603401aSearch
import Derived.Test.Qxb6603401aRegion
namespace Go.Proofs.Qxb6603401a
open Go Go.RowKit

theorem Chg.free {S : List Nat} {a b : World} (h : Chg S a b) {p : Addr} (hf : a.frozen? p = false) (hlt : p.block < a.heap.size) (hp : p.block ∉ S) : b.frozen? p = false :=
  (World.frozen?_of_block (h.block p.block hlt hp)).trans hf

/-! ### Nodes in memory: node b has its items in block b, its header in block b + 1, its children in block b + 2 -/
def ptr (b : Nat) : Value := .pointer (some ⟨b + 1, 0, none⟩)

structure Nd where
  its : List It
  kids : Option (List Nat)

def kidsVal (b : Nat) : Option (List Nat) → Value
  | none => .slice none 0 0
  | some ks => .slice (some ⟨b + 2, 0, none⟩) ks.length 32

structure NodeAt (w : World) (b : Nat) (nd : Nd) : Prop where
  head : w.heap[b + 1]? = some (.cells #[.int .u64 0, .slice (some ⟨b, 0, none⟩) nd.its.length 31, kidsVal b nd.kids] 79 (0, 0))
  items : Items w b nd.its
  kids : ∀ ks, nd.kids = some ks → RowOf 30 32 w (b + 2) (ks.map ptr)

/-- The blocks that a node takes. -/
def Nd.blocks (b : Nat) (nd : Nd) : List Nat := match nd.kids with | none => [b, b + 1] | some _ => [b, b + 1, b + 2]

theorem NodeAt.lt {w : World} {b : Nat} {nd : Nd} (h : NodeAt w b nd) : b + 1 < w.heap.size := (Array.getElem?_eq_some_iff.1 h.head).1
theorem NodeAt.gen {w : World} {b : Nat} {nd : Nd} (h : NodeAt w b nd) : w.cell? ⟨b + 1, 0, none⟩ = some (.int .u64 0) := by simp [World.cell?, h.head]
theorem NodeAt.hdr {w : World} {b : Nat} {nd : Nd} (h : NodeAt w b nd) : w.cell? ⟨b + 1, 1, none⟩ = some (.slice (some ⟨b, 0, none⟩) nd.its.length 31) := by simp [World.cell?, h.head]
theorem NodeAt.khdr {w : World} {b : Nat} {nd : Nd} (h : NodeAt w b nd) : w.cell? ⟨b + 1, 2, none⟩ = some (kidsVal b nd.kids) := by simp [World.cell?, h.head]
theorem NodeAt.free {w : World} {b : Nat} {nd : Nd} (h : NodeAt w b nd) (j : Nat) : w.frozen? ⟨b + 1, j, none⟩ = false := by simp [World.frozen?, h.head]
theorem NodeAt.len {w : World} {b : Nat} {nd : Nd} (h : NodeAt w b nd) : nd.its.length ≤ 31 := h.items.len
theorem NodeAt.klen {w : World} {b : Nat} {nd : Nd} (h : NodeAt w b nd) {ks : List Nat} (hk : nd.kids = some ks) : ks.length ≤ 32 := by
  obtain ⟨sp, _, h2⟩ := h.kids ks hk
  rw [List.length_append, List.length_map] at h2
  omega
theorem NodeAt.kid {w : World} {b : Nat} {nd : Nd} (h : NodeAt w b nd) {ks : List Nat} (hk : nd.kids = some ks) {i : Nat} (hi : i < ks.length) : w.cell? ⟨b + 2, i, none⟩ = some (ptr ks[i]) :=
  RowOf.cell (h.kids ks hk) (by simp [hi])

theorem NodeAt.chg {w w' : World} {b : Nat} {nd : Nd} (h : NodeAt w b nd) {S : List Nat} (hc : Chg S w w') (hb : ∀ x ∈ nd.blocks b, x ∉ S) : NodeAt w' b nd := by
  refine ⟨hc.heap h.head (hb _ ?_), h.items.chg hc (hb _ ?_), fun ks hk => (h.kids ks hk).chg hc (hb _ ?_)⟩
  · unfold Nd.blocks; split <;> simp
  · unfold Nd.blocks; split <;> simp
  · unfold Nd.blocks; rw [hk]; simp

/-- The type of each block tells what it is. -/
theorem NodeAt.types {w : World} {b : Nat} {nd : Nd} (h : NodeAt w b nd) : ∀ x ∈ nd.blocks b, ∃ c T, w.heap[x]? = some (.cells c T (0, 0)) ∧ ((x = b ∧ T = 82 ∧ c.size = 62) ∨ (x = b + 1 ∧ T = 79) ∨ (x = b + 2 ∧ T = 30)) := by
  intro x hx
  obtain ⟨sp, hi, hsz⟩ := h.items
  have hsz' : (flat nd.its ++ sp).toArray.size = 62 := by rw [List.size_toArray]; exact hsz
  unfold Nd.blocks at hx
  cases hk : nd.kids with
  | none =>
    rw [hk] at hx
    simp only [List.mem_cons, List.not_mem_nil, or_false] at hx
    rcases hx with rfl | rfl
    · exact ⟨_, _, hi, .inl ⟨rfl, rfl, hsz'⟩⟩
    · exact ⟨_, _, h.head, .inr (.inl ⟨rfl, rfl⟩)⟩
  | some ks =>
    obtain ⟨sp2, hk2, _⟩ := h.kids ks hk
    rw [hk] at hx
    simp only [List.mem_cons, List.not_mem_nil, or_false] at hx
    rcases hx with rfl | rfl | rfl
    · exact ⟨_, _, hi, .inl ⟨rfl, rfl, hsz'⟩⟩
    · exact ⟨_, _, h.head, .inr (.inl ⟨rfl, rfl⟩)⟩
    · exact ⟨_, _, hk2, .inr (.inr ⟨rfl, rfl⟩)⟩

theorem NodeAt.apart {w : World} {b b' : Nat} {nd nd' : Nd} (h : NodeAt w b nd) (h' : NodeAt w b' nd') (hne : b ≠ b') : ∀ x ∈ nd.blocks b, x ∉ nd'.blocks b' := by
  intro x hx hx'
  obtain ⟨c, T, h1, h2⟩ := h.types x hx
  obtain ⟨c', T', h1', h2'⟩ := h'.types x hx'
  rw [h1] at h1'
  simp only [Option.some.injEq, Obj.cells.injEq] at h1'
  obtain ⟨_, rfl, _⟩ := h1'
  rcases h2 with ⟨e, t, _⟩ | ⟨e, t⟩ | ⟨e, t⟩ <;> rcases h2' with ⟨e', t', _⟩ | ⟨e', t'⟩ | ⟨e', t'⟩ <;> first | omega | exact absurd (t.symm.trans t') (by decide)

/-! ### The store of nodes -/
abbrev Store := Nat → Option Nd
def Store.set (σ : Store) (b : Nat) (nd : Nd) : Store := fun x => if x = b then some nd else σ x
theorem Store.set_same (σ : Store) (b : Nat) (nd : Nd) : σ.set b nd b = some nd := by simp [Store.set]
theorem Store.set_other (σ : Store) {b x : Nat} (nd : Nd) (h : x ≠ b) : σ.set b nd x = σ x := by simp [Store.set, h]

/-- The store lies in memory, all of it from block B on; F: blocks of other types that stand as they stood. -/
abbrev Keep := Nat → Option Obj
structure Env (F : Keep) (B : Nat) (σ : Store) (w : World) : Prop where
  rep : ∀ b nd, σ b = some nd → NodeAt w b nd
  lo : ∀ b nd, σ b = some nd → B ≤ b
  size : B ≤ w.heap.size
  keep : ∀ b o, F b = some o → w.heap[b]? = some o
  other : ∀ b o, F b = some o → ∃ c T f, o = .cells c T f ∧ (T = 82 → c.size ≠ 62) ∧ T ≠ 79 ∧ T ≠ 30

theorem Env.apartF {F : Keep} {B : Nat} {σ : Store} {w : World} (h : Env F B σ w) {b : Nat} {nd : Nd} (hn : NodeAt w b nd) {x : Nat} {o : Obj} (hx : F x = some o) : x ∉ nd.blocks b := by
  intro hm
  obtain ⟨c, T, h1, h2⟩ := hn.types x hm
  obtain ⟨c', T', f', rfl, h4, h5, h6⟩ := h.other x o hx
  rw [h.keep x _ hx] at h1
  simp only [Option.some.injEq, Obj.cells.injEq] at h1
  obtain ⟨rfl, rfl, _⟩ := h1
  rcases h2 with ⟨_, e, e2⟩ | ⟨_, e⟩ | ⟨_, e⟩
  · exact h4 e e2
  · exact h5 e
  · exact h6 e

theorem Env.new {F : Keep} {B : Nat} {σ : Store} {w : World} (h : Env F B σ w) {b : Nat} (hb : w.heap.size ≤ b + 1) : σ b = none := by
  cases hs : σ b with
  | none => rfl
  | some nd => have := (h.rep b nd hs).lt; omega

theorem Env.chg0 {F : Keep} {B : Nat} {σ : Store} {w w' : World} (h : Env F B σ w) (hc : Chg [] w w') : Env F B σ w' :=
  ⟨fun b nd hs => (h.rep b nd hs).chg hc (fun _ _ => by simp), h.lo, Nat.le_trans h.size hc.size, fun b o hb => hc.heap (h.keep b o hb) (by simp), h.other⟩

/-- ONE NODE HAS TURNED. -/
theorem Env.turn {F : Keep} {B : Nat} {σ : Store} {w w' : World} (h : Env F B σ w) {b : Nat} {nd nd' : Nd} (hs : σ b = some nd) (hc : Chg (nd.blocks b) w w') (hn : NodeAt w' b nd') : Env F B (σ.set b nd') w' := by
  refine ⟨fun x ndx hx => ?_, fun x ndx hx => ?_, Nat.le_trans h.size hc.size, fun x o hx => hc.heap (h.keep x o hx) (h.apartF (h.rep b nd hs) hx), h.other⟩
  · by_cases e : x = b
    · subst e
      rw [Store.set_same] at hx
      cases hx
      exact hn
    · rw [Store.set_other _ _ e] at hx
      exact (h.rep x ndx hx).chg hc ((h.rep x ndx hx).apart (h.rep b nd hs) e)
  · by_cases e : x = b
    · subst e; exact h.lo _ _ hs
    · rw [Store.set_other _ _ e] at hx; exact h.lo _ _ hx

/-- A NODE HAS BEEN MADE. -/
theorem Env.made {F : Keep} {B : Nat} {σ : Store} {w w' : World} (h : Env F B σ w) {b : Nat} {nd : Nd} (hc : Chg [] w w') (hb : w.heap.size ≤ b) (hn : NodeAt w' b nd) : Env F B (σ.set b nd) w' := by
  refine ⟨fun x ndx hx => ?_, fun x ndx hx => ?_, Nat.le_trans h.size hc.size, fun x o hx => hc.heap (h.keep x o hx) (by simp), h.other⟩
  · by_cases e : x = b
    · subst e
      rw [Store.set_same] at hx
      cases hx
      exact hn
    · rw [Store.set_other _ _ e] at hx
      exact (h.rep x ndx hx).chg hc (fun _ _ => by simp)
  · by_cases e : x = b
    · subst e; exact Nat.le_trans h.size hb
    · rw [Store.set_other _ _ e] at hx; exact h.lo _ _ hx

theorem Env.below {F : Keep} {B : Nat} {σ : Store} {w w' : World} (h : Env F B σ w) {b : Nat} {nd : Nd} (hs : σ b = some nd) (hc : Chg (nd.blocks b) w w') : Below B w w' :=
  hc.below h.size (fun x hx => by
    have := h.lo b nd hs
    unfold Nd.blocks at hx
    split at hx <;> simp only [List.mem_cons, List.not_mem_nil, or_false] at hx <;> omega)

theorem below0 {B : Nat} {w w' : World} (hB : B ≤ w.heap.size) (hc : Chg [] w w') : Below B w w' := hc.below hB (fun x hx => by simp at hx)

/-! ### What a statement 'x.items = ..' ¦ 'x.children = ..' does to a node -/
/-- The items' row has been written, then the header. -/
theorem NodeAt.put_items {w w1 : World} {b : Nat} {nd : Nd} (h : NodeAt w b nd) {its' : List It} (hc : Chg [b] w w1) (hi : Items w1 b its') {n : Nat} (hn : n = its'.length) :
    NodeAt (w1.setCell ⟨b + 1, 1, none⟩ (.slice (some ⟨b, 0, none⟩) n 31)) b ⟨its', nd.kids⟩ ∧ Chg (nd.blocks b) w (w1.setCell ⟨b + 1, 1, none⟩ (.slice (some ⟨b, 0, none⟩) n 31)) := by
  subst hn
  have hb : b ∈ nd.blocks b := by unfold Nd.blocks; split <;> simp
  have hb1 : b + 1 ∈ nd.blocks b := by unfold Nd.blocks; split <;> simp
  have h1 := hc.heap h.head (by simp)
  have hset := setCell_eq_setRow w1 (b + 1) 1 _ _ _ (.slice (some ⟨b, 0, none⟩) its'.length 31) h1
  have hc2 : Chg [b + 1] w1 (w1.setCell ⟨b + 1, 1, none⟩ (.slice (some ⟨b, 0, none⟩) its'.length 31)) := (Chg.refl _ _).setCell (.inl (by simp)) _
  refine ⟨⟨?_, hi.chg hc2 (by simp), fun ks hk => ((h.kids ks hk).chg hc (by simp)).chg hc2 (by simp)⟩, (hc.mono (fun x hx => by simp at hx; subst hx; exact hb)).trans (hc2.mono (fun x hx => by simp at hx; subst hx; exact hb1))⟩
  rw [hset, setRow_heap w1 (b + 1) _ _ _ _ h1]
  rfl

theorem NodeAt.put_kids {w w1 : World} {b : Nat} {nd : Nd} (h : NodeAt w b nd) {ks ks' : List Nat} (hk : nd.kids = some ks) (hc : Chg [b + 2] w w1) (hi : RowOf 30 32 w1 (b + 2) (ks'.map ptr)) {n : Nat} (hn : n = ks'.length) :
    NodeAt (w1.setCell ⟨b + 1, 2, none⟩ (.slice (some ⟨b + 2, 0, none⟩) n 32)) b ⟨nd.its, some ks'⟩ ∧ Chg (nd.blocks b) w (w1.setCell ⟨b + 1, 2, none⟩ (.slice (some ⟨b + 2, 0, none⟩) n 32)) := by
  subst hn
  have hb : b + 2 ∈ nd.blocks b := by unfold Nd.blocks; rw [hk]; simp
  have hb1 : b + 1 ∈ nd.blocks b := by unfold Nd.blocks; rw [hk]; simp
  have h1 := hc.heap h.head (by simp)
  have hset := setCell_eq_setRow w1 (b + 1) 2 _ _ _ (.slice (some ⟨b + 2, 0, none⟩) ks'.length 32) h1
  have hc2 : Chg [b + 1] w1 (w1.setCell ⟨b + 1, 2, none⟩ (.slice (some ⟨b + 2, 0, none⟩) ks'.length 32)) := (Chg.refl _ _).setCell (.inl (by simp)) _
  refine ⟨⟨?_, (h.items.chg hc (by simp)).chg hc2 (by simp), fun ks2 hk2 => ?_⟩, (hc.mono (fun x hx => by simp at hx; subst hx; exact hb)).trans (hc2.mono (fun x hx => by simp at hx; subst hx; exact hb1))⟩
  · rw [hset, setRow_heap w1 (b + 1) _ _ _ _ h1]
    rfl
  · cases hk2
    exact hi.chg hc2 (by simp)

/-! ### What is kept besides -/
def Keep.put (F : Keep) (b : Nat) (o : Obj) : Keep := fun x => if x = b then some o else F x
theorem Env.keepPut {F : Keep} {B : Nat} {σ : Store} {w : World} (h : Env F B σ w) {b : Nat} {c : Array Value} {T : TypeId} {f : Nat × Nat} (hb : w.heap[b]? = some (.cells c T f)) (h1 : T = 82 → c.size ≠ 62) (h2 : T ≠ 79) (h3 : T ≠ 30) : Env (F.put b (.cells c T f)) B σ w := by
  refine ⟨h.rep, h.lo, h.size, fun x o hx => ?_, fun x o hx => ?_⟩
  · unfold Keep.put at hx
    split at hx
    · rename_i e; subst e; cases hx; exact hb
    · exact h.keep x o hx
  · unfold Keep.put at hx
    split at hx
    · cases hx; exact ⟨_, _, _, rfl, h1, h2, h3⟩
    · exact h.other x o hx
theorem Env.keepLess {F F' : Keep} {B : Nat} {σ : Store} {w : World} (h : Env F' B σ w) (hs : ∀ b o, F b = some o → F' b = some o) : Env F B σ w :=
  ⟨h.rep, h.lo, h.size, fun b o hb => h.keep b o (hs b o hb), fun b o hb => h.other b o (hs b o hb)⟩
theorem Keep.put_same (F : Keep) (b : Nat) (o : Obj) : F.put b o b = some o := by simp [Keep.put]
theorem Keep.put_other (F : Keep) {b x : Nat} (o : Obj) (h : x ≠ b) : F.put b o x = F x := by simp [Keep.put, h]
theorem Env.fresh {F : Keep} {B : Nat} {σ : Store} {w : World} (h : Env F B σ w) {b : Nat} (hb : w.heap.size ≤ b) : F b = none := by
  cases hf : F b with
  | none => rfl
  | some o => have := (Array.getElem?_eq_some_iff.1 (h.keep b o hf)).1; omega
end Go.Proofs.Qxb6603401a
