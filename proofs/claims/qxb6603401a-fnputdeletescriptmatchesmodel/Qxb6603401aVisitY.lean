import Derived.Test.Qxb6603401aModel
namespace Go.Proofs.Qxb6603401a
open Go Go.RowKit Go.Deep
set_option linter.unusedSimpArgs false
set_option linter.unusedVariables false

/-- From w on, block p and the row of o have been written, and new blocks; the row of o' is that of o, or new. -/
structure CS (p : Nat) (o : Value) (w : World) (o' : Value) (w' : World) : Prop where
  chg : Chg (p :: own o) w w'
  own : ∀ g, o'.ownBlock = some g → o.ownBlock = some g ∨ w.heap.size ≤ g
theorem CS.refl (p : Nat) (o : Value) (w : World) : CS p o w o w := ⟨Chg.refl _ _, fun g h => .inl h⟩
theorem mem_own {o : Value} {g : Nat} : g ∈ Qxb6603401a.own o ↔ o.ownBlock = some g := by
  unfold Qxb6603401a.own
  cases o.ownBlock <;> simp [eq_comm]
theorem CS.trans {p : Nat} {o o1 o2 : Value} {w w1 w2 : World} (h : CS p o w o1 w1) (k : CS p o1 w1 o2 w2) : CS p o w o2 w2 := by
  refine ⟨⟨k.chg.os.trans h.chg.os, k.chg.tape.trans h.chg.tape, k.chg.output.trans h.chg.output, Nat.le_trans h.chg.size k.chg.size, fun i hi hn => ?_⟩, fun g hg => ?_⟩
  · refine (k.chg.block i (Nat.lt_of_lt_of_le hi h.chg.size) (fun hm => ?_)).trans (h.chg.block i hi hn)
    rcases List.mem_cons.1 hm with rfl | hm
    · exact hn List.mem_cons_self
    · rcases h.own i (mem_own.1 hm) with h1 | h1
      · exact hn (List.mem_cons_of_mem _ (mem_own.2 h1))
      · omega
  · rcases k.own g hg with h1 | h1
    · exact h.own g h1
    · exact .inr (Nat.le_trans h.chg.size h1)
theorem EsAt.typed {E : Nat} {w : World} {o : Value} {ml : List It} (h : EsAt E w o ml) {g : Nat} (hg : g ∈ own o) : E ≤ g ∧ ∃ c, w.heap[g]? = some (.cells c 70 (0, 0)) := by
  rcases h.2 with ⟨rfl, _⟩ | ⟨g', cap, cur, rfl, h2, h3, h4⟩
  · cases hg
  · have : g = g' := by simpa [own, Value.ownBlock] using hg
    subst this
    exact ⟨h2, _, h3⟩
/-- Block p and the row of o have turned: the tree's nodes are as they were. -/
theorem Env.chgC {B E p : Nat} {σ : Store} {w w' : World} {o : Value} {ml : List It} (h : Env noKeep B σ w) {c : Array Value} {f : Nat × Nat} (hp : w.heap[p]? = some (.cells c 39 f)) (ho : EsAt E w o ml) (hc : Chg (p :: own o) w w') : Env noKeep B σ w' :=
  h.aside hc (fun b nd hs x hx hx2 => by
    obtain ⟨c', T, h1, h2⟩ := (h.rep b nd hs).types x hx
    have hT : T ≠ 82 ∧ T ≠ 79 ∧ T ≠ 30 := by
      rcases List.mem_cons.1 hx2 with rfl | hx2
      · rw [hp] at h1
        simp only [Option.some.injEq, Obj.cells.injEq] at h1
        obtain ⟨_, rfl, _⟩ := h1
        exact ⟨by decide, by decide, by decide⟩
      · obtain ⟨_, c2, h3⟩ := ho.typed hx2
        rw [h3] at h1
        simp only [Option.some.injEq, Obj.cells.injEq] at h1
        obtain ⟨_, rfl, _⟩ := h1
        exact ⟨by decide, by decide, by decide⟩
    rcases h2 with ⟨_, e, _⟩ | ⟨_, e⟩ | ⟨_, e⟩
    · exact hT.1 e
    · exact hT.2.1 e
    · exact hT.2.2 e) (fun b o hb _ => by cases hb)

/-- The walk's state in world W, since world w: what it has gathered is l. -/
def OutIs (E p : Nat) (w : World) (o : Value) (W : World) (ld : Int) (st : Option ByteArray) (cnt : Nat) (l : List It) : Prop :=
  ∃ o', W.heap[p]? = some (wsObj ld st cnt true o') ∧ EsAt E W o' l ∧ CS p o w o' W

set_option maxHeartbeats 4000000 in
set_option maxRecDepth 100000 in
theorem visit_yes (p b i n : Nat) (x : It) (w : World) (ld : Int) (st : Option ByteArray) (cnt : Nat) (out : Value) (E : Nat) (ml : List It) (hp : w.heap[p]? = some (wsObj ld st cnt true out)) (ho : EsAt E w out ml) (hE : E ≤ w.heap.size) (hml : ml.length < 1048576)
    (hs : ∀ l, st = some l → kc l x.key < 0) (hc : cnt < 4611686018427387904)
    (h : w.cell? ⟨b + 1, 1, none⟩ = some (.slice (some ⟨b, 0, none⟩) n 31)) (hi : i < n) (hv : w.cell? ⟨b, i * 2, none⟩ = some (.string x.key)) (hv2 : w.cell? ⟨b, i * 2 + 1, none⟩ = some (.slice x.va x.vn x.vc)) (hb1 : b ≠ p) (hb2 : b + 1 ≠ p) :
    Calls Try.prog 63 #[ptr b, .int .i64 i, .pointer (some ⟨p, 0, none⟩)] w fun e w' => e = .returned (.tuple #[]) ∧ OutIs E p w out w' ld (some x.key) (cnt + 1) (ml ++ [x]) := by
  obtain ⟨k, xa, xn, xc⟩ := x
  simp only at *
  obtain ⟨oa, on, oc, rfl⟩ : ∃ a n c, out = .slice a n c := by
    rcases ho.forms with ⟨rfl, _⟩ | ⟨g, cap, rfl, _⟩
    · exact ⟨_, _, _, rfl⟩
    · exact ⟨_, _, _, rfl⟩
  have HA := acc61 b i n k w h hi hv
  have c0 : w.cell? ⟨p, 0, none⟩ = some (.bool true) := (Lib.cell_of_heap hp 0).trans rfl
  have c2 : w.cell? ⟨p, 2, none⟩ = some (.bool st.isSome) := (Lib.cell_of_heap hp 2).trans rfl
  have c3 : w.cell? ⟨p, 3, none⟩ = some (.string (st.getD ⟨#[]⟩)) := (Lib.cell_of_heap hp 3).trans rfl
  have c4 : w.cell? ⟨p, 4, none⟩ = some (.int .i64 (cnt : Nat)) := (Lib.cell_of_heap hp 4).trans rfl
  have c5 : w.cell? ⟨p, 5, none⟩ = some (.bool true) := (Lib.cell_of_heap hp 5).trans rfl
  have f2 : w.frozen? ⟨p, 2, none⟩ = false := by simp [World.frozen?, hp, wsObj]
  have f3 : w.frozen? ⟨p, 3, none⟩ = false := by simp [World.frozen?, hp, wsObj]
  have f4 : w.frozen? ⟨p, 4, none⟩ = false := by simp [World.frozen?, hp, wsObj]
  have hpl : p < w.heap.size := World.block_lt_of_cell? w _ c0
  have zc : (cnt : Int) < 4611686018427387904 := by omega
  have zc0 : (0 : Int) ≤ (cnt : Int) := Int.natCast_nonneg _
  have HP : Hid (w.heap[p]? = some (wsObj ld st cnt true (.slice oa on oc)) ∧ EsAt E w (.slice oa on oc) ml ∧ w.cell? ⟨b + 1, 1, none⟩ = some (.slice (some ⟨b, 0, none⟩) n 31) ∧ w.cell? ⟨b, i * 2 + 1, none⟩ = some (.slice xa xn xc) ∧ b ≠ p ∧ b + 1 ≠ p) := ⟨hp, ho, h, hv2, hb1, hb2⟩
  clear hp h hv hv2 hb1 hb2 ho
  have hfin : Hid (((((w.setCell ⟨p, 3, none⟩ (.string k)).setCell ⟨p, 2, none⟩ (.bool true)).setCell ⟨p, 4, none⟩ (.int .i64 ((cnt : Int) + 1))).heap[p]? = some (wsObj ld (some k) (cnt + 1) true (.slice oa on oc))) ∧ Chg [p] w (((w.setCell ⟨p, 3, none⟩ (.string k)).setCell ⟨p, 2, none⟩ (.bool true)).setCell ⟨p, 4, none⟩ (.int .i64 ((cnt : Int) + 1)))) := by
    refine ⟨?_, (((Chg.refl _ _).setCell (.inl (by simp)) _).setCell (.inl (by simp)) _).setCell (.inl (by simp)) _⟩
    rw [setCell_heap (setCell_heap (setCell_heap HP.out.1 _) _) _]
    rfl
  have hpo : p ∉ own (.slice oa on oc) := fun hm => by
    obtain ⟨_, c, h1⟩ := HP.out.2.1.typed hm
    rw [HP.out.1] at h1
    simp [wsObj] at h1
  obtain ⟨i0, hi0, hz0, hz1, hz2⟩ := info70
  cases st with
  | none =>
    simp only [Option.isSome, Option.getD] at c2 c3
    clear hs
    go_enter Try.func63, Try.ntmps63
    go_wp2_with fail
    refine HA.mono ?_
    rintro e w' ⟨rfl, rfl⟩
    go_wp2_with fail
    generalize ((w.setCell ⟨p, 3, none⟩ (.string k)).setCell ⟨p, 2, none⟩ (.bool true)).setCell ⟨p, 4, none⟩ (.int .i64 ((cnt : Int) + 1)) = w3 at *
    have h6 : w3.cell? ⟨p, 6, none⟩ = some (.slice oa on oc) := (Lib.cell_of_heap hfin.out.1 6).trans rfl
    have ff6 : w3.frozen? ⟨p, 6, none⟩ = false := by have := hfin.out.1; simp [World.frozen?, this, wsObj]
    have HA2 := acc62 b i n xa xn xc w3.drew (hfin.out.2.cell HP.out.2.2.1 (by simp; exact HP.out.2.2.2.2.2)) hi (hfin.out.2.cell HP.out.2.2.2.1 (by simp; exact HP.out.2.2.2.2.1))
    have ho3 : EsAt E w3.drew (.slice oa on oc) ml := HP.out.2.1.chg hfin.out.2.drew (fun g hg hm => hpo (by have hm2 := List.mem_singleton.1 hm; subst hm2; exact mem_own.2 hg))
    have hE3 : E ≤ w3.heap.size := Nat.le_trans hE hfin.out.2.size
    have hpl3 : p < w3.heap.size := World.block_lt_of_cell? w3 _ h6
    clear c0 c2 c3 c4 c5 f2 f3 f4 HA
    unfold ptr at HA2
    refine wp_region_T [0, 1, 2, 3, 4, 5, 6, 7] [12, 13, 14] (fun W => W.cell? ⟨p, 6, none⟩ = some (.slice oa on oc)) 7 (by kernel_rfl) (by kernel_rfl) h6 ?_
    iterate 8 (apply wpTake_cons rfl rfl (by rfl); (next => intro W hW; go_simp; first | done | with_reducible rfl | (go_bits; first | done | with_reducible rfl | (go_simp; first | done | with_reducible rfl))); simp only [List.setIfInBounds_toArray, List.set_cons_zero, List.set_cons_succ])
    refine wpTake_nil ?_
    refine wpAnyT_one (r := 8) (by kernel_rfl) rfl ?_
    intro K hK
    go_simp
    refine HA2.mono ?_
    rintro e w4 ⟨rfl, rfl⟩
    refine hK.out _ _ ⟨fun _ => h6, ?_⟩
    clear hK K HA2
    try simp only [Act.put, List.setIfInBounds_toArray, List.set_cons_zero, List.set_cons_succ]
    refine wpAnyT_one (r := 9) (by kernel_rfl) rfl ?_
    intro K hK
    go_simp
    refine hK.out _ _ ⟨fun _ => h6, ?_⟩
    clear hK K
    refine wpAnyT_one (r := 10) (by kernel_rfl) rfl ?_
    intro K hK
    go_simp
    have hcA : Chg [] w3 (w3.alloc (.cells #[.string k, .slice xa xn xc] 70)).drew := ((Chg.refl _ _).alloc _).drew
    have hb4 : ((w3.alloc (.cells #[.string k, .slice xa xn xc] 70)).drew).heap[w3.heap.size]? = some (.cells #[.string k, .slice xa xn xc] 70 (0, 0)) := heap_alloc_new w3 _
    have ho4 : ((w3.alloc (.cells #[.string k, .slice xa xn xc] 70)).drew).ownsRow E 70 2 (.slice oa on oc) ml.length (flat ml) := World.ownsRow.alloc (w := w3) ho3 _
    have hE4 : E ≤ (w3.alloc (.cells #[.string k, .slice xa xn xc] 70)).drew.heap.size := Nat.le_trans hE3 hcA.size
    refine hK.out _ _ ⟨fun _ => hcA.cell h6 (by simp), ?_⟩
    clear hK K
    generalize (w3.alloc (.cells #[.string k, .slice xa xn xc] 70)).drew = w4 at *
    refine wpAnyT_one (r := 11) (by kernel_rfl) rfl ?_
    intro K hK
    refine step_append_lies w4 rfl _ _ 34 rfl E 70 i0 _ 2 40 Try.underlying34 hi0 hz0 hz1 hz2 rfl (by decide) _ _ _ rfl ho4 ⟨w3.heap.size, 0, none⟩ 1 1 [.string k, .slice xa xn xc] rfl rfl (World.news_of_block hb4) ?c1 (by decide) ?c2 ?c3 hE4 _ rfl ?_
    case c1 => intro u hu; simp only [List.mem_cons, List.not_mem_nil, or_false] at hu; rcases hu with rfl | rfl <;> rfl
    case c2 => unfold maxLen; omega
    case c3 => omega
    intro g cap w5 hown hgrow hat hlt
    have hpl4 : p < w4.heap.size := Nat.lt_of_lt_of_le hpl3 hcA.size
    have hpf : some p ≠ (Value.slice oa on oc).ownBlock := fun e => hpo (mem_own.2 e.symm)
    have h65 : w5.cell? ⟨p, 6, none⟩ = some (.slice oa on oc) := (hgrow.cell_far ⟨p, 6, none⟩ hpl4 hpf).trans (hcA.cell h6 (by simp))
    have hheap4 := hcA.heap hfin.out.1 (by simp)
    have hheap5 : w5.heap[p]? = some (wsObj ld (some k) (cnt + 1) true (.slice oa on oc)) := (hgrow.block p hpl4 hpf).trans hheap4
    have f65 : w5.frozen? ⟨p, 6, none⟩ = false := by simp [World.frozen?, hheap5, wsObj]
    refine hK.out _ _ ⟨fun _ => h65, ?_⟩
    clear hK K
    try simp only [Act.put, List.setIfInBounds_toArray, List.set_cons_zero, List.set_cons_succ]
    have HF : Hid (OutIs E p w (.slice oa on oc) (w5.setCell ⟨p, 6, none⟩ (.slice (some ⟨g, 0, none⟩) (ml.length + 1) cap)) ld (some k) (cnt + 1) (ml ++ [⟨k, xa, xn, xc⟩])) := by
      have hgp : g ≠ p := by
        rcases hat with h1 | h1
        · intro e; subst e; exact hpo (mem_own.2 h1)
        · omega
      have hs6 : Chg [p] w5 (w5.setCell ⟨p, 6, none⟩ (.slice (some ⟨g, 0, none⟩) (ml.length + 1) cap)) := (Chg.refl _ _).setCell (.inl (by simp)) _
      refine ⟨_, by rw [setCell_heap hheap5]; rfl, ?_, ⟨?_, fun g' hg' => ?_⟩⟩
      · refine EsAt.chg (w := w5) ?_ hs6 (fun g' hg' hm => ?_)
        · unfold EsAt
          rw [flat_append, List.length_append]
          exact hown
        · have e1 : g = g' := by simpa [Value.ownBlock] using hg'
          have e2 := List.mem_singleton.1 hm
          omega
      · exact (((hfin.out.2.mono (fun x hx => by have := List.mem_singleton.1 hx; subst this; exact List.mem_cons_self)).trans (hcA.mono (by simp))).trans ((chg_of_grown hgrow).mono (fun x hx => List.mem_cons_of_mem _ hx))).trans (hs6.mono (fun x hx => by have := List.mem_singleton.1 hx; subst this; exact List.mem_cons_self))
      · have e1 : g = g' := by simpa [Value.ownBlock] using hg'
        subst e1
        rcases hat with h1 | h1
        · exact .inl h1
        · exact .inr (by have := hfin.out.2.size; have := hcA.size; omega)
    clear hown hgrow hat hlt ho4 ho3 hb4 hcA hheap4
    refine wpAnyT_one (r := 12) (by kernel_rfl) rfl ?_
    intro K hK
    go_simp
    refine hK.out _ _ ⟨(fun h => by cases h), ?_⟩
    clear hK K
    refine wpAnyT_one (r := 13) (by kernel_rfl) rfl ?_
    intro K hK
    go_simp
    refine hK.out _ _ ⟨(fun h => by cases h), ?_⟩
    clear hK K
    refine wpAnyT_one (r := 14) (by kernel_rfl) rfl ?_
    intro K hK
    go_simp
    refine hK.out _ _ ⟨(fun h => by cases h), ?_⟩
    clear hK K
    refine wpAnyT_done (by kernel_rfl) ?_ _
    refine NoPanic.normal ?_
    go_wp2_with fail
    refine bodyPost_end (v := .tuple #[]) (by simp [results, Try.results63, go_sem]) rfl ⟨rfl, HF.out⟩
  | some l =>
    simp only [Option.isSome, Option.getD] at c2 c3
    have hlk : Op.bytesLess l.toList k.toList = true := by rw [less_kc]; simp [hs l rfl]
    clear hs
    go_enter Try.func63, Try.ntmps63
    go_wp2_with fail
    refine HA.mono ?_
    rintro e w' ⟨rfl, rfl⟩
    go_wp2_with fail
    generalize ((w.setCell ⟨p, 3, none⟩ (.string k)).setCell ⟨p, 2, none⟩ (.bool true)).setCell ⟨p, 4, none⟩ (.int .i64 ((cnt : Int) + 1)) = w3 at *
    have h6 : w3.cell? ⟨p, 6, none⟩ = some (.slice oa on oc) := (Lib.cell_of_heap hfin.out.1 6).trans rfl
    have ff6 : w3.frozen? ⟨p, 6, none⟩ = false := by have := hfin.out.1; simp [World.frozen?, this, wsObj]
    have HA2 := acc62 b i n xa xn xc w3.drew (hfin.out.2.cell HP.out.2.2.1 (by simp; exact HP.out.2.2.2.2.2)) hi (hfin.out.2.cell HP.out.2.2.2.1 (by simp; exact HP.out.2.2.2.2.1))
    have ho3 : EsAt E w3.drew (.slice oa on oc) ml := HP.out.2.1.chg hfin.out.2.drew (fun g hg hm => hpo (by have hm2 := List.mem_singleton.1 hm; subst hm2; exact mem_own.2 hg))
    have hE3 : E ≤ w3.heap.size := Nat.le_trans hE hfin.out.2.size
    have hpl3 : p < w3.heap.size := World.block_lt_of_cell? w3 _ h6
    clear c0 c2 c3 c4 c5 f2 f3 f4 HA
    unfold ptr at HA2
    refine wp_region_T [0, 1, 2, 3, 4, 5, 6, 7] [12, 13, 14] (fun W => W.cell? ⟨p, 6, none⟩ = some (.slice oa on oc)) 7 (by kernel_rfl) (by kernel_rfl) h6 ?_
    iterate 8 (apply wpTake_cons rfl rfl (by rfl); (next => intro W hW; go_simp; first | done | with_reducible rfl | (go_bits; first | done | with_reducible rfl | (go_simp; first | done | with_reducible rfl))); simp only [List.setIfInBounds_toArray, List.set_cons_zero, List.set_cons_succ])
    refine wpTake_nil ?_
    refine wpAnyT_one (r := 8) (by kernel_rfl) rfl ?_
    intro K hK
    go_simp
    refine HA2.mono ?_
    rintro e w4 ⟨rfl, rfl⟩
    refine hK.out _ _ ⟨fun _ => h6, ?_⟩
    clear hK K HA2
    try simp only [Act.put, List.setIfInBounds_toArray, List.set_cons_zero, List.set_cons_succ]
    refine wpAnyT_one (r := 9) (by kernel_rfl) rfl ?_
    intro K hK
    go_simp
    refine hK.out _ _ ⟨fun _ => h6, ?_⟩
    clear hK K
    refine wpAnyT_one (r := 10) (by kernel_rfl) rfl ?_
    intro K hK
    go_simp
    have hcA : Chg [] w3 (w3.alloc (.cells #[.string k, .slice xa xn xc] 70)).drew := ((Chg.refl _ _).alloc _).drew
    have hb4 : ((w3.alloc (.cells #[.string k, .slice xa xn xc] 70)).drew).heap[w3.heap.size]? = some (.cells #[.string k, .slice xa xn xc] 70 (0, 0)) := heap_alloc_new w3 _
    have ho4 : ((w3.alloc (.cells #[.string k, .slice xa xn xc] 70)).drew).ownsRow E 70 2 (.slice oa on oc) ml.length (flat ml) := World.ownsRow.alloc (w := w3) ho3 _
    have hE4 : E ≤ (w3.alloc (.cells #[.string k, .slice xa xn xc] 70)).drew.heap.size := Nat.le_trans hE3 hcA.size
    refine hK.out _ _ ⟨fun _ => hcA.cell h6 (by simp), ?_⟩
    clear hK K
    generalize (w3.alloc (.cells #[.string k, .slice xa xn xc] 70)).drew = w4 at *
    refine wpAnyT_one (r := 11) (by kernel_rfl) rfl ?_
    intro K hK
    refine step_append_lies w4 rfl _ _ 34 rfl E 70 i0 _ 2 40 Try.underlying34 hi0 hz0 hz1 hz2 rfl (by decide) _ _ _ rfl ho4 ⟨w3.heap.size, 0, none⟩ 1 1 [.string k, .slice xa xn xc] rfl rfl (World.news_of_block hb4) ?c1 (by decide) ?c2 ?c3 hE4 _ rfl ?_
    case c1 => intro u hu; simp only [List.mem_cons, List.not_mem_nil, or_false] at hu; rcases hu with rfl | rfl <;> rfl
    case c2 => unfold maxLen; omega
    case c3 => omega
    intro g cap w5 hown hgrow hat hlt
    have hpl4 : p < w4.heap.size := Nat.lt_of_lt_of_le hpl3 hcA.size
    have hpf : some p ≠ (Value.slice oa on oc).ownBlock := fun e => hpo (mem_own.2 e.symm)
    have h65 : w5.cell? ⟨p, 6, none⟩ = some (.slice oa on oc) := (hgrow.cell_far ⟨p, 6, none⟩ hpl4 hpf).trans (hcA.cell h6 (by simp))
    have hheap4 := hcA.heap hfin.out.1 (by simp)
    have hheap5 : w5.heap[p]? = some (wsObj ld (some k) (cnt + 1) true (.slice oa on oc)) := (hgrow.block p hpl4 hpf).trans hheap4
    have f65 : w5.frozen? ⟨p, 6, none⟩ = false := by simp [World.frozen?, hheap5, wsObj]
    refine hK.out _ _ ⟨fun _ => h65, ?_⟩
    clear hK K
    try simp only [Act.put, List.setIfInBounds_toArray, List.set_cons_zero, List.set_cons_succ]
    have HF : Hid (OutIs E p w (.slice oa on oc) (w5.setCell ⟨p, 6, none⟩ (.slice (some ⟨g, 0, none⟩) (ml.length + 1) cap)) ld (some k) (cnt + 1) (ml ++ [⟨k, xa, xn, xc⟩])) := by
      have hgp : g ≠ p := by
        rcases hat with h1 | h1
        · intro e; subst e; exact hpo (mem_own.2 h1)
        · omega
      have hs6 : Chg [p] w5 (w5.setCell ⟨p, 6, none⟩ (.slice (some ⟨g, 0, none⟩) (ml.length + 1) cap)) := (Chg.refl _ _).setCell (.inl (by simp)) _
      refine ⟨_, by rw [setCell_heap hheap5]; rfl, ?_, ⟨?_, fun g' hg' => ?_⟩⟩
      · refine EsAt.chg (w := w5) ?_ hs6 (fun g' hg' hm => ?_)
        · unfold EsAt
          rw [flat_append, List.length_append]
          exact hown
        · have e1 : g = g' := by simpa [Value.ownBlock] using hg'
          have e2 := List.mem_singleton.1 hm
          omega
      · exact (((hfin.out.2.mono (fun x hx => by have := List.mem_singleton.1 hx; subst this; exact List.mem_cons_self)).trans (hcA.mono (by simp))).trans ((chg_of_grown hgrow).mono (fun x hx => List.mem_cons_of_mem _ hx))).trans (hs6.mono (fun x hx => by have := List.mem_singleton.1 hx; subst this; exact List.mem_cons_self))
      · have e1 : g = g' := by simpa [Value.ownBlock] using hg'
        subst e1
        rcases hat with h1 | h1
        · exact .inl h1
        · exact .inr (by have := hfin.out.2.size; have := hcA.size; omega)
    clear hown hgrow hat hlt ho4 ho3 hb4 hcA hheap4
    refine wpAnyT_one (r := 12) (by kernel_rfl) rfl ?_
    intro K hK
    go_simp
    refine hK.out _ _ ⟨(fun h => by cases h), ?_⟩
    clear hK K
    refine wpAnyT_one (r := 13) (by kernel_rfl) rfl ?_
    intro K hK
    go_simp
    refine hK.out _ _ ⟨(fun h => by cases h), ?_⟩
    clear hK K
    refine wpAnyT_one (r := 14) (by kernel_rfl) rfl ?_
    intro K hK
    go_simp
    refine hK.out _ _ ⟨(fun h => by cases h), ?_⟩
    clear hK K
    refine wpAnyT_done (by kernel_rfl) ?_ _
    refine NoPanic.normal ?_
    go_wp2_with fail
    refine bodyPost_end (v := .tuple #[]) (by simp [results, Try.results63, go_sem]) rfl ⟨rfl, HF.out⟩
end Go.Proofs.Qxb6603401a
