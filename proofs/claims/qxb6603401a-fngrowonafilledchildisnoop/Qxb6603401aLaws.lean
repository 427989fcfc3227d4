import Derived.WalkKit
import Derived.WalkSpells
import Derived.WalkLawsBesides
import Derived.Laws.CopyOwn
import Derived.LaidEqlPtr
namespace Go.Proofs.Qxb6603401a
open Go Go.RowKit

/-! ### What a step may change -/
/-- w' is w with new blocks, and with writes to the blocks of S alone. -/
structure Chg (S : List Nat) (w w' : World) : Prop where
  os : w'.os = w.os
  tape : w'.tape = w.tape
  output : w'.output = w.output
  size : w.heap.size ≤ w'.heap.size
  block : ∀ k, k < w.heap.size → k ∉ S → w'.heap[k]? = w.heap[k]?

theorem Chg.refl (S : List Nat) (w : World) : Chg S w w := ⟨rfl, rfl, rfl, Nat.le_refl _, fun _ _ _ => rfl⟩
theorem Chg.trans {S : List Nat} {a b c : World} (h : Chg S a b) (k : Chg S b c) : Chg S a c :=
  ⟨k.os.trans h.os, k.tape.trans h.tape, k.output.trans h.output, Nat.le_trans h.size k.size, fun i hi hS => (k.block i (Nat.lt_of_lt_of_le hi h.size) hS).trans (h.block i hi hS)⟩
theorem Chg.mono {S S' : List Nat} {a b : World} (h : Chg S a b) (hS : ∀ x ∈ S, x ∈ S') : Chg S' a b := ⟨h.os, h.tape, h.output, h.size, fun i hi hn => h.block i hi (fun hm => hn (hS i hm))⟩
theorem Chg.drew {S : List Nat} {a b : World} (h : Chg S a b) : Chg S a b.drew := ⟨h.os, h.tape, h.output, h.size, h.block⟩
theorem Chg.drewN {S : List Nat} {a b : World} (h : Chg S a b) (n : Nat) : Chg S a (b.drewN n) := ⟨h.os, h.tape, h.output, h.size, h.block⟩
theorem Chg.of_drew {S : List Nat} {a b : World} (h : Chg S a.drew b) : Chg S a b := ⟨h.os, h.tape, h.output, h.size, h.block⟩
theorem Chg.of_drewN {S : List Nat} {a b : World} {n : Nat} (h : Chg S (a.drewN n) b) : Chg S a b := ⟨h.os, h.tape, h.output, h.size, h.block⟩
theorem Chg.alloc {S : List Nat} {a b : World} (h : Chg S a b) (o : Obj) : Chg S a (b.alloc o) :=
  ⟨h.os, h.tape, h.output, by simp; exact Nat.le_succ_of_le h.size, fun i hi hS => (Below.heap_alloc b o i (Nat.lt_of_lt_of_le hi h.size)).trans (h.block i hi hS)⟩
theorem Chg.setCell {S : List Nat} {a b : World} (h : Chg S a b) {p : Addr} (hp : p.block ∈ S ∨ a.heap.size ≤ p.block) (v : Value) : Chg S a (b.setCell p v) :=
  ⟨h.os, h.tape, h.output, by simp; exact h.size, fun i hi hS => (Below.heap_setCell b p v i (fun e => by subst e; rcases hp with hp | hp; exact hS hp; omega)).trans (h.block i hi hS)⟩
theorem Chg.setRow {S : List Nat} {a b : World} (h : Chg S a b) {g : Nat} (hp : g ∈ S ∨ a.heap.size ≤ g) (cs : Array Value) : Chg S a (b.setRow g cs) :=
  ⟨h.os, h.tape, h.output, by simp; exact h.size, fun i hi hS => (setRow_other b g i cs (fun e => by subst e; rcases hp with hp | hp; exact hS hp; omega)).trans (h.block i hi hS)⟩
theorem Chg.below {S : List Nat} {B : Nat} {a b : World} (h : Chg S a b) (hB : B ≤ a.heap.size) (hS : ∀ x ∈ S, B ≤ x) : Below B a b :=
  ⟨h.os, h.tape, h.output, h.size, fun k hk => h.block k (by omega) (fun hm => by have := hS k hm; omega)⟩
theorem Chg.cell {S : List Nat} {a b : World} (h : Chg S a b) {p : Addr} {v : Value} (hc : a.cell? p = some v) (hp : p.block ∉ S) : b.cell? p = some v :=
  (World.cell?_of_block (h.block p.block (World.block_lt_of_cell? a _ hc) hp)).trans hc
theorem Chg.heap {S : List Nat} {a b : World} (h : Chg S a b) {k : Nat} {o : Obj} (hc : a.heap[k]? = some o) (hp : k ∉ S) : b.heap[k]? = some o :=
  (h.block k (Array.getElem?_eq_some_iff.1 hc).1 hp).trans hc

/-! ### append, copy, clear on a row that is known whole, elements of any size -/
section
variable {P : Program}

theorem run_append_k (w : World) (t ty e : TypeId) (size : Nat) (ht : P.underlying t = some (.slice e)) (hsz : (P.info? e).map (·.size) = some size)
    (g off n cap : Nat) (xa : Option Addr) (m c : Nat) (cur : List Value) (T : TypeId) (hg : w.heap[g]? = some (.cells cur.toArray T (0, 0)))
    (cs : List Value) (hn : cs.length = m * size) (hsrc : 0 < m → ∃ ad, xa = some ad ∧ ∀ j v, cs[j]? = some v → w.cell? (ad.add j) = some v)
    (hroom : n + m ≤ cap) (hfit : off + n * size + cs.length ≤ cur.length) (h1 : ∀ v ∈ cs, v.oneCell' = true) :
    ∃ w', (Builtin.append_ #[t, t] ty #[.slice (some ⟨g, off, none⟩) n cap, .slice xa m c]).run P w = .ok (.slice (some ⟨g, off, none⟩) (n + m) cap) w' ∧
      w'.heap[g]? = some (.cells (splice cur (off + n * size) cs).toArray T (0, 0)) ∧ Chg [g] w w' := by
  cases hq : P.info? e with
  | none => simp [hq] at hsz
  | some i =>
    have hi : i.size = size := by simpa [hq] using hsz
    subst hi
    have hst := run_storeCells_at P g (off + n * i.size) T cs 0 cur.toArray w hg (by simpa using hfit) h1
    simp only [Nat.add_zero] at hst
    have hadd : (⟨g, off, none⟩ : Addr).add (n * i.size) = ⟨g, off + n * i.size, none⟩ := by unfold Addr.add; split <;> simp_all
    refine ⟨_, ?_, setRow_heap w g _ (splice cur (off + n * i.size) cs).toArray T _ hg, (Chg.refl _ w).setRow (.inl (by simp)) _⟩
    have hsp : splice cur (off + n * i.size) cs = cur.take (off + n * i.size) ++ cs ++ cur.drop (off + n * i.size + cs.length) := by simp [splice]
    rw [hsp]
    have hfc : (Builtin.firstCells i.size m (.slice xa m c)).run P w = .ok cs.toArray w := by
      cases m with
      | zero =>
        obtain rfl : cs = [] := List.eq_nil_of_length_eq_zero (by simpa using hn)
        cases xa with
        | none => simp [Builtin.firstCells]
        | some ad =>
          have := run_loadCells_list (P := P) w ad [] (fun j v h => by simp at h)
          simpa [Builtin.firstCells] using this
      | succ m =>
        obtain ⟨ad, rfl, hs⟩ := hsrc (by omega)
        have := run_loadCells_list (P := P) w ad cs hs
        rw [hn] at this
        simpa [Builtin.firstCells] using this
    simp [Builtin.append_, run_underlying ht, sizeOf, typeInfo, hq, Builtin.lenOf, hroom, hfc, hadd, hst]

theorem run_copy_k (w : World) (dT sT ty elem : TypeId) (size : Nat) (hu : P.underlying dT = some (.slice elem)) (hsz : (P.info? elem).map (·.size) = some size)
    (dp sp : Option Addr) (dLen dCap sLen sCap m : Nat) (hm : Nat.min sLen dLen = m)
    (g off : Nat) (cur : List Value) (T : TypeId) (hg : w.heap[g]? = some (.cells cur.toArray T (0, 0))) (hdp : dp = some ⟨g, off, none⟩)
    (cs : List Value) (hn : cs.length = m * size) (ad : Addr) (hsp : sp = some ad) (hsrc : ∀ j v, cs[j]? = some v → w.cell? (ad.add j) = some v)
    (hfit : off + cs.length ≤ cur.length) (h1 : ∀ v ∈ cs, v.oneCell' = true) :
    ∃ w', (Builtin.copy_ #[dT, sT] ty #[.slice dp dLen dCap, .slice sp sLen sCap]).run P w = .ok (.int .i64 m) w' ∧
      w'.heap[g]? = some (.cells (splice cur off cs).toArray T (0, 0)) ∧ Chg [g] w w' := by
  subst hdp; subst hsp
  cases hq : P.info? elem with
  | none => simp [hq] at hsz
  | some i =>
    have hi : i.size = size := by simpa [hq] using hsz
    subst hi
    have hst := run_storeCells_at P g off T cs 0 cur.toArray w hg (by simpa using hfit) h1
    simp only [Nat.add_zero] at hst
    have hl := run_loadCells_list (P := P) w ad cs hsrc
    rw [hn] at hl
    refine ⟨_, ?_, setRow_heap w g _ (splice cur off cs).toArray T _ hg, (Chg.refl _ w).setRow (.inl (by simp)) _⟩
    have hsp : splice cur off cs = cur.take off ++ cs ++ cur.drop (off + cs.length) := by simp [splice]
    rw [hsp]
    simp [Builtin.copy_, run_underlying hu, Builtin.lenOf, Builtin.firstCells, sizeOf, typeInfo, hq, hm, hl, hst, goInt]

theorem run_clear_k (w : World) (t ty e : TypeId) (size : Nat) (ht : P.underlying t = some (.slice e)) (z : Array Value) (hinfo : (P.info? e).map (fun i => (i.zero.map Value.cells, i.size)) = some (some z, size)) (hzs : z.size = size)
    (g off n c : Nat) (hn0 : 0 < n) (cur : List Value) (T : TypeId) (hg : w.heap[g]? = some (.cells cur.toArray T (0, 0)))
    (hfit : off + n * size ≤ cur.length) (h1 : ∀ v ∈ z, v.oneCell' = true) (hpos : 0 < size) :
    ∃ w' cs, (Builtin.clear_ #[t] ty #[.slice (some ⟨g, off, none⟩) n c]).run P w = .ok (.tuple #[]) w' ∧ cs.length = n * size ∧
      w'.heap[g]? = some (.cells (splice cur off cs).toArray T (0, 0)) ∧ Chg [g] w w' := by
  obtain ⟨i, hi, hzz⟩ := Option.map_eq_some_iff.1 hinfo
  simp only [Prod.mk.injEq] at hzz
  obtain ⟨hz, hs⟩ := hzz
  obtain ⟨zv, hzv, hzc⟩ := Option.map_eq_some_iff.1 hz
  have hlen : (Builtin.zeroCells zv.cells n).toList.length = n * size := by simp [Builtin.zeroCells, hzc, hzs]
  have hone : ∀ v ∈ (Builtin.zeroCells zv.cells n).toList, v.oneCell' = true := by
    intro v hv
    simp only [Builtin.zeroCells, Array.toList_map, List.mem_map] at hv
    obtain ⟨j, _, rfl⟩ := hv
    rw [hzc]
    have hj : j % z.size < z.size := Nat.mod_lt _ (by omega)
    rw [getElem!_pos z (j % z.size) hj]
    exact h1 _ (Array.getElem_mem hj)
  have hst := run_storeCells_at P g off T (Builtin.zeroCells zv.cells n).toList 0 cur.toArray w hg (by simp only [hlen, Nat.add_zero, List.size_toArray]; exact hfit) hone
  simp only [Nat.add_zero] at hst
  refine ⟨_, (Builtin.zeroCells zv.cells n).toList, ?_, hlen, setRow_heap w g _ (splice cur off (Builtin.zeroCells zv.cells n).toList).toArray T _ hg, (Chg.refl _ w).setRow (.inl (by simp)) _⟩
  have hsp : splice cur off (Builtin.zeroCells zv.cells n).toList = cur.take off ++ (Builtin.zeroCells zv.cells n).toList ++ cur.drop (off + (Builtin.zeroCells zv.cells n).toList.length) := by simp [splice]
  rw [hsp]
  obtain ⟨n, rfl⟩ : ∃ k, n = k + 1 := ⟨n - 1, by omega⟩
  simp [Builtin.clear_, run_underlying ht, zeroValue, typeInfo, hi, hzv, hst]


theorem wp_append_k {o : Oper} {a : Act} {w : World} {K : Act → World → Prop} {Q : Exit → Act → World → Prop} (s x : Operand) (t : TypeId) (ho : o.op = .call { callee := .builtin .append, args := #[s, x], argTypes := #[t, t] })
    (e : TypeId) (size : Nat) (ht : P.underlying t = some (.slice e)) (hsz : (P.info? e).map (·.size) = some size)
    (g off n cap : Nat) (hs : a.eval s = .slice (some ⟨g, off, none⟩) n cap) (xa : Option Addr) (m c : Nat) (hx : a.eval x = .slice xa m c)
    (cur : List Value) (T : TypeId) (hg : w.heap[g]? = some (.cells cur.toArray T (0, 0)))
    (cs : List Value) (hn : cs.length = m * size) (hsrc : 0 < m → ∃ ad, xa = some ad ∧ ∀ j v, cs[j]? = some v → w.cell? (ad.add j) = some v)
    (hroom : n + m ≤ cap) (hfit : off + n * size + cs.length ≤ cur.length) (h1 : ∀ v ∈ cs, v.oneCell' = true)
    (h : ∀ w', Hid (w'.heap[g]? = some (.cells (splice cur (off + n * size) cs).toArray T (0, 0))) → Chg [g] w w' → K (a.put o.dst (.slice (some ⟨g, off, none⟩) (n + m) cap)) w') : o.wp P a w K Q := by
  obtain ⟨w', hrun, h2, h3⟩ := run_append_k (P := P) w t o.type e size ht hsz g off n cap xa m c cur T hg cs hn hsrc hroom hfit h1
  unfold Oper.wp
  simp [execOp, ho, resolve, invoke, builtin, hs, hx, hrun, Result.andThen]
  exact h w' h2 h3

theorem wpList_append_k {ops : Array Oper} {rest : List Oper} {o : Oper} {a : Act} {w : World} {Q : Exit → Act → World → Prop} (hgd : o.guard = none) (s x : Operand) (t : TypeId) (ho : o.op = .call { callee := .builtin .append, args := #[s, x], argTypes := #[t, t] })
    (e : TypeId) (size : Nat) (ht : P.underlying t = some (.slice e)) (hsz : (P.info? e).map (·.size) = some size)
    (g off n cap : Nat) (hs : a.eval s = .slice (some ⟨g, off, none⟩) n cap) (xa : Option Addr) (m c : Nat) (hx : a.eval x = .slice xa m c)
    (cur : List Value) (T : TypeId) (hg : w.heap[g]? = some (.cells cur.toArray T (0, 0)))
    (cs : List Value) (hn : cs.length = m * size) (hsrc : 0 < m → ∃ ad, xa = some ad ∧ ∀ j v, cs[j]? = some v → w.cell? (ad.add j) = some v)
    (hroom : n + m ≤ cap) (hfit : off + n * size + cs.length ≤ cur.length) (h1 : ∀ v ∈ cs, v.oneCell' = true)
    (h : ∀ w', Hid (w'.heap[g]? = some (.cells (splice cur (off + n * size) cs).toArray T (0, 0))) → Chg [g] w w' → wpList P ops Q rest (a.put o.dst (.slice (some ⟨g, off, none⟩) (n + m) cap)) w') : wpList P ops Q (o :: rest) a w :=
  wpList_plain hgd fun _ hK => wp_append_k s x t ho e size ht hsz g off n cap hs xa m c hx cur T hg cs hn hsrc hroom hfit h1 (fun w1 h2 h3 => hK _ _ (h w1 h2 h3))

theorem step_append_k {ops : Array Oper} {o : Oper} {a : Act} {w : World} {K : Act → World → Prop} {Q : Exit → Act → World → Prop} {E : Prop} (hgd : o.guard = none) (s x : Operand) (t : TypeId) (ho : o.op = .call { callee := .builtin .append, args := #[s, x], argTypes := #[t, t] })
    (e : TypeId) (size : Nat) (ht : P.underlying t = some (.slice e)) (hsz : (P.info? e).map (·.size) = some size)
    (g off n cap : Nat) (hs : a.eval s = .slice (some ⟨g, off, none⟩) n cap) (xa : Option Addr) (m c : Nat) (hx : a.eval x = .slice xa m c)
    (cur : List Value) (T : TypeId) (hg : w.heap[g]? = some (.cells cur.toArray T (0, 0)))
    (cs : List Value) (hn : cs.length = m * size) (hsrc : 0 < m → ∃ ad, xa = some ad ∧ ∀ j v, cs[j]? = some v → w.cell? (ad.add j) = some v)
    (hroom : n + m ≤ cap) (hfit : off + n * size + cs.length ≤ cur.length) (h1 : ∀ v ∈ cs, v.oneCell' = true)
    (h : ∀ w', Hid (w'.heap[g]? = some (.cells (splice cur (off + n * size) cs).toArray T (0, 0))) → Chg [g] w w' → K (a.put o.dst (.slice (some ⟨g, off, none⟩) (n + m) cap)) w') :
    if Region.wanted o (yielded ops a.tmps) = true then Oper.wp P o a w K Q else E := by
  have hw : Region.wanted o (yielded ops a.tmps) = true := by simp [Region.wanted, hgd]
  rw [if_pos hw]
  exact wp_append_k s x t ho e size ht hsz g off n cap hs xa m c hx cur T hg cs hn hsrc hroom hfit h1 h

theorem wp_copy_k {o : Oper} {a : Act} {w : World} {K : Act → World → Prop} {Q : Exit → Act → World → Prop} (d s : Operand) (dT sT : TypeId) (ho : o.op = .call { callee := .builtin .copy, args := #[d, s], argTypes := #[dT, sT] })
    (elem : TypeId) (size : Nat) (hu : P.underlying dT = some (.slice elem)) (hsz : (P.info? elem).map (·.size) = some size)
    (dp sp : Option Addr) (dLen dCap sLen sCap m : Nat) (hd : a.eval d = .slice dp dLen dCap) (hs : a.eval s = .slice sp sLen sCap) (hm : Nat.min sLen dLen = m)
    (g off : Nat) (cur : List Value) (T : TypeId) (hg : w.heap[g]? = some (.cells cur.toArray T (0, 0))) (hdp : dp = some ⟨g, off, none⟩)
    (cs : List Value) (hn : cs.length = m * size) (ad : Addr) (hsp : sp = some ad) (hsrc : ∀ j v, cs[j]? = some v → w.cell? (ad.add j) = some v)
    (hfit : off + cs.length ≤ cur.length) (h1 : ∀ v ∈ cs, v.oneCell' = true)
    (h : ∀ w', Hid (w'.heap[g]? = some (.cells (splice cur off cs).toArray T (0, 0))) → Chg [g] w w' → K (a.put o.dst (.int .i64 m)) w') : o.wp P a w K Q := by
  obtain ⟨w', hrun, h2, h3⟩ := run_copy_k (P := P) w dT sT o.type elem size hu hsz dp sp dLen dCap sLen sCap m hm g off cur T hg hdp cs hn ad hsp hsrc hfit h1
  unfold Oper.wp
  simp [execOp, ho, resolve, invoke, builtin, hd, hs, hrun, Result.andThen]
  exact h w' h2 h3

theorem wpList_copy_k {ops : Array Oper} {rest : List Oper} {o : Oper} {a : Act} {w : World} {Q : Exit → Act → World → Prop} (hgd : o.guard = none) (d s : Operand) (dT sT : TypeId) (ho : o.op = .call { callee := .builtin .copy, args := #[d, s], argTypes := #[dT, sT] })
    (elem : TypeId) (size : Nat) (hu : P.underlying dT = some (.slice elem)) (hsz : (P.info? elem).map (·.size) = some size)
    (dp sp : Option Addr) (dLen dCap sLen sCap m : Nat) (hd : a.eval d = .slice dp dLen dCap) (hs : a.eval s = .slice sp sLen sCap) (hm : Nat.min sLen dLen = m)
    (g off : Nat) (cur : List Value) (T : TypeId) (hg : w.heap[g]? = some (.cells cur.toArray T (0, 0))) (hdp : dp = some ⟨g, off, none⟩)
    (cs : List Value) (hn : cs.length = m * size) (ad : Addr) (hsp : sp = some ad) (hsrc : ∀ j v, cs[j]? = some v → w.cell? (ad.add j) = some v)
    (hfit : off + cs.length ≤ cur.length) (h1 : ∀ v ∈ cs, v.oneCell' = true)
    (h : ∀ w', Hid (w'.heap[g]? = some (.cells (splice cur off cs).toArray T (0, 0))) → Chg [g] w w' → wpList P ops Q rest (a.put o.dst (.int .i64 m)) w') : wpList P ops Q (o :: rest) a w :=
  wpList_plain hgd fun _ hK => wp_copy_k d s dT sT ho elem size hu hsz dp sp dLen dCap sLen sCap m hd hs hm g off cur T hg hdp cs hn ad hsp hsrc hfit h1 (fun w1 h2 h3 => hK _ _ (h w1 h2 h3))

theorem step_copy_k {ops : Array Oper} {o : Oper} {a : Act} {w : World} {K : Act → World → Prop} {Q : Exit → Act → World → Prop} {E : Prop} (hgd : o.guard = none) (d s : Operand) (dT sT : TypeId) (ho : o.op = .call { callee := .builtin .copy, args := #[d, s], argTypes := #[dT, sT] })
    (elem : TypeId) (size : Nat) (hu : P.underlying dT = some (.slice elem)) (hsz : (P.info? elem).map (·.size) = some size)
    (dp sp : Option Addr) (dLen dCap sLen sCap m : Nat) (hd : a.eval d = .slice dp dLen dCap) (hs : a.eval s = .slice sp sLen sCap) (hm : Nat.min sLen dLen = m)
    (g off : Nat) (cur : List Value) (T : TypeId) (hg : w.heap[g]? = some (.cells cur.toArray T (0, 0))) (hdp : dp = some ⟨g, off, none⟩)
    (cs : List Value) (hn : cs.length = m * size) (ad : Addr) (hsp : sp = some ad) (hsrc : ∀ j v, cs[j]? = some v → w.cell? (ad.add j) = some v)
    (hfit : off + cs.length ≤ cur.length) (h1 : ∀ v ∈ cs, v.oneCell' = true)
    (h : ∀ w', Hid (w'.heap[g]? = some (.cells (splice cur off cs).toArray T (0, 0))) → Chg [g] w w' → K (a.put o.dst (.int .i64 m)) w') :
    if Region.wanted o (yielded ops a.tmps) = true then Oper.wp P o a w K Q else E := by
  have hw : Region.wanted o (yielded ops a.tmps) = true := by simp [Region.wanted, hgd]
  rw [if_pos hw]
  exact wp_copy_k d s dT sT ho elem size hu hsz dp sp dLen dCap sLen sCap m hd hs hm g off cur T hg hdp cs hn ad hsp hsrc hfit h1 h

theorem wp_clear_k {o : Oper} {a : Act} {w : World} {K : Act → World → Prop} {Q : Exit → Act → World → Prop} (x : Operand) (t : TypeId) (ho : o.op = .call { callee := .builtin .clear, args := #[x], argTypes := #[t] })
    (e : TypeId) (size : Nat) (ht : P.underlying t = some (.slice e)) (z : Array Value) (hinfo : (P.info? e).map (fun i => (i.zero.map Value.cells, i.size)) = some (some z, size)) (hzs : z.size = size)
    (g off n c : Nat) (hx : a.eval x = .slice (some ⟨g, off, none⟩) n c) (hn0 : 0 < n) (cur : List Value) (T : TypeId) (hg : w.heap[g]? = some (.cells cur.toArray T (0, 0)))
    (hfit : off + n * size ≤ cur.length) (h1 : ∀ v ∈ z, v.oneCell' = true) (hpos : 0 < size)
    (h : ∀ w', ∀ cs : List Value, cs.length = n * size → Hid (w'.heap[g]? = some (.cells (splice cur off cs).toArray T (0, 0))) → Chg [g] w w' → K (a.put o.dst (.tuple #[])) w') : o.wp P a w K Q := by
  obtain ⟨w', cs, hrun, h0, h2, h3⟩ := run_clear_k (P := P) w t o.type e size ht z hinfo hzs g off n c hn0 cur T hg hfit h1 hpos
  unfold Oper.wp
  simp [execOp, ho, resolve, invoke, builtin, hx, hrun, Result.andThen]
  exact h w' cs h0 h2 h3

theorem wpList_clear_k {ops : Array Oper} {rest : List Oper} {o : Oper} {a : Act} {w : World} {Q : Exit → Act → World → Prop} (hgd : o.guard = none) (x : Operand) (t : TypeId) (ho : o.op = .call { callee := .builtin .clear, args := #[x], argTypes := #[t] })
    (e : TypeId) (size : Nat) (ht : P.underlying t = some (.slice e)) (z : Array Value) (hinfo : (P.info? e).map (fun i => (i.zero.map Value.cells, i.size)) = some (some z, size)) (hzs : z.size = size)
    (g off n c : Nat) (hx : a.eval x = .slice (some ⟨g, off, none⟩) n c) (hn0 : 0 < n) (cur : List Value) (T : TypeId) (hg : w.heap[g]? = some (.cells cur.toArray T (0, 0)))
    (hfit : off + n * size ≤ cur.length) (h1 : ∀ v ∈ z, v.oneCell' = true) (hpos : 0 < size)
    (h : ∀ w', ∀ cs : List Value, cs.length = n * size → Hid (w'.heap[g]? = some (.cells (splice cur off cs).toArray T (0, 0))) → Chg [g] w w' → wpList P ops Q rest (a.put o.dst (.tuple #[])) w') : wpList P ops Q (o :: rest) a w :=
  wpList_plain hgd fun _ hK => wp_clear_k x t ho e size ht z hinfo hzs g off n c hx hn0 cur T hg hfit h1 hpos (fun w1 cs h0 h2 h3 => hK _ _ (h w1 cs h0 h2 h3))

theorem step_clear_k {ops : Array Oper} {o : Oper} {a : Act} {w : World} {K : Act → World → Prop} {Q : Exit → Act → World → Prop} {E : Prop} (hgd : o.guard = none) (x : Operand) (t : TypeId) (ho : o.op = .call { callee := .builtin .clear, args := #[x], argTypes := #[t] })
    (e : TypeId) (size : Nat) (ht : P.underlying t = some (.slice e)) (z : Array Value) (hinfo : (P.info? e).map (fun i => (i.zero.map Value.cells, i.size)) = some (some z, size)) (hzs : z.size = size)
    (g off n c : Nat) (hx : a.eval x = .slice (some ⟨g, off, none⟩) n c) (hn0 : 0 < n) (cur : List Value) (T : TypeId) (hg : w.heap[g]? = some (.cells cur.toArray T (0, 0)))
    (hfit : off + n * size ≤ cur.length) (h1 : ∀ v ∈ z, v.oneCell' = true) (hpos : 0 < size)
    (h : ∀ w', ∀ cs : List Value, cs.length = n * size → Hid (w'.heap[g]? = some (.cells (splice cur off cs).toArray T (0, 0))) → Chg [g] w w' → K (a.put o.dst (.tuple #[])) w') :
    if Region.wanted o (yielded ops a.tmps) = true then Oper.wp P o a w K Q else E := by
  have hw : Region.wanted o (yielded ops a.tmps) = true := by simp [Region.wanted, hgd]
  rw [if_pos hw]
  exact wp_clear_k x t ho e size ht z hinfo hzs g off n c hx hn0 cur T hg hfit h1 hpos h

end
end Go.Proofs.Qxb6603401a
