import Derived.Test.Qxb6603401aModel
import Derived.Test.Qxb6603401aDel
namespace Go.Proofs.Qxb6603401a
open Go Go.RowKit Go.Deep
set_option linter.unusedSimpArgs false
set_option linter.unusedVariables false

/-! ### What is kept beside a tree -/
theorem TreeAt.root33 {F : Keep} {tb : Nat} {w : World} {es : List It} (h : TreeAt F tb w es) : ∃ c, w.heap[tb]? = some (.cells c 33 (0, 0)) := by
  obtain ⟨root, h1, _⟩ := h.is
  exact ⟨_, h1⟩
theorem TreeAt.lt {F : Keep} {tb : Nat} {w : World} {es : List It} (h : TreeAt F tb w es) : tb < w.heap.size := by
  obtain ⟨c, h1⟩ := h.root33
  exact (Array.getElem?_eq_some_iff.1 h1).1
theorem TreeAt.keepPut {F : Keep} {tb : Nat} {w : World} {es : List It} (h : TreeAt F tb w es) {g : Nat} {c : Array Value} {T : TypeId} {f : Nat × Nat} (hg : w.heap[g]? = some (.cells c T f)) (h1 : T ≠ 82) (h2 : T ≠ 79) (h3 : T ≠ 30) (h4 : T ≠ 33) :
    TreeAt (F.put g (.cells c T f)) tb w es := by
  obtain ⟨root, h5, h6⟩ := h.is
  refine ⟨h.sorted, ?_, root, h5, ?_⟩
  · rw [Keep.put_other]
    · exact h.free
    · rintro rfl
      rw [hg] at h5
      simp only [Option.some.injEq, Obj.cells.injEq] at h5
      exact h4 h5.2.1
  · rcases h6 with ⟨e1, e2, e3⟩ | ⟨d, t, σ, e1, e2, e3⟩
    · exact .inl ⟨e1, e2, e3.keepPut hg (fun e => absurd e h1) h2 h3⟩
    · exact .inr ⟨d, t, σ, e1, e2.keepPut hg (fun e => absurd e h1) h2 h3, e3⟩
theorem TreeAt.less {F F' : Keep} {tb : Nat} {w : World} {es : List It} (h : TreeAt F' tb w es) (hs : ∀ b o, F b = some o → F' b = some o) : TreeAt F tb w es := by
  obtain ⟨root, h5, h6⟩ := h.is
  refine ⟨h.sorted, ?_, root, h5, ?_⟩
  · cases hf : F tb with
    | none => rfl
    | some o => have := hs tb o hf; rw [h.free] at this; cases this
  · rcases h6 with ⟨e1, e2, e3⟩ | ⟨d, t, σ, e1, e2, e3⟩
    · exact .inl ⟨e1, e2, e3.keepLess hs⟩
    · exact .inr ⟨d, t, σ, e1, e2.keepLess hs, e3⟩
theorem TreeAt.bare {F : Keep} {tb : Nat} {w : World} {es : List It} (h : TreeAt F tb w es) : TreeAt noKeep tb w es := h.less (fun _ _ h => by cases h)
theorem TreeAt.kept {F : Keep} {tb : Nat} {w : World} {es : List It} (h : TreeAt F tb w es) {g : Nat} {o : Obj} (hg : F g = some o) : w.heap[g]? = some o := by
  obtain ⟨root, h5, h6⟩ := h.is
  rcases h6 with ⟨e1, e2, e3⟩ | ⟨d, t, σ, e1, e2, e3⟩
  · exact e3.keep g o hg
  · exact e2.keep g o hg
/-- Blocks of another type than a tree's have turned. -/
theorem TreeAt.chgT {tb : Nat} {w w' : World} {es : List It} (h : TreeAt noKeep tb w es) {S : List Nat} (hS : ∀ g ∈ S, ∃ c T f, w.heap[g]? = some (.cells c T f) ∧ T ≠ 82 ∧ T ≠ 79 ∧ T ≠ 30 ∧ T ≠ 33) (hc : Chg S w w') : TreeAt noKeep tb w' es := by
  obtain ⟨root, h5, h6⟩ := h.is
  have hne : tb ∉ S := fun hm => by
    obtain ⟨c, T, f, e, _, _, _, hT⟩ := hS tb hm
    rw [h5] at e
    simp only [Option.some.injEq, Obj.cells.injEq] at e
    exact hT e.2.1.symm
  have key : ∀ σ : Store, Env noKeep (tb + 1) σ w → Env noKeep (tb + 1) σ w' := fun σ he => he.aside hc (fun b nd hs x hx hx2 => by
    obtain ⟨c, T, f, e, n1, n2, n3, _⟩ := hS x hx2
    obtain ⟨c', T', h1, h2⟩ := (he.rep b nd hs).types x hx
    rw [e] at h1
    simp only [Option.some.injEq, Obj.cells.injEq] at h1
    obtain ⟨_, rfl, _⟩ := h1
    rcases h2 with ⟨_, e, _⟩ | ⟨_, e⟩ | ⟨_, e⟩
    · exact n1 e
    · exact n2 e
    · exact n3 e) (fun b o hb _ => by cases hb)
  refine ⟨h.sorted, rfl, root, hc.heap h5 hne, ?_⟩
  rcases h6 with ⟨e1, e2, e3⟩ | ⟨d, t, σ, e1, e2, e3⟩
  · exact .inl ⟨e1, e2, key _ e3⟩
  · exact .inr ⟨d, t, σ, e1, key _ e2, e3⟩

/-- A slice of entries (type T) keeps beside the tree. -/
theorem keep_es {F : Keep} {tb B : Nat} {w : World} {es ml : List It} {v : Value} (ht : TreeAt F tb w es) (hv : EsAt B w v ml) :
    ∃ F', TreeAt F' tb w es ∧ (∀ b o, F b = some o → F' b = some o ∨ v.ownBlock = some b) ∧ ∀ w' es', TreeAt F' tb w' es' → EsAt B w' v ml := by
  rcases hv.2 with h1 | ⟨g, cap, cur, rfl, h2, h3, h4⟩
  · exact ⟨F, ht, fun b o h => .inl h, fun w' es' _ => ⟨hv.1, .inl h1⟩⟩
  · refine ⟨_, ht.keepPut h3 (by decide) (by decide) (by decide) (by decide), fun b o h => ?_, fun w' es' ht' => ⟨hv.1, .inr ⟨g, cap, cur, rfl, h2, ht'.kept (Keep.put_same _ _ _), h4⟩⟩⟩
    by_cases e : b = g
    · exact .inr (by rw [e]; rfl)
    · exact .inl (by rw [Keep.put_other _ _ e]; exact h)
theorem es_chg {tb B : Nat} {w w' : World} {es ml : List It} {v : Value} (ht : TreeAt noKeep tb w es) (hv : EsAt B w v ml) (hc : Chg (own v) w w') : TreeAt noKeep tb w' es := by
  refine ht.chgT (fun g hg => ?_) hc
  rcases hv.2 with ⟨rfl, _⟩ | ⟨g', cap, cur, rfl, h2, h3, h4⟩
  · cases hg
  · have : g = g' := by simpa [own, Value.ownBlock] using hg
    subst this
    exact ⟨_, _, _, h3, by decide, by decide, by decide, by decide⟩
theorem es_below {B : Nat} {w w' : World} {ml : List It} {v : Value} (hv : EsAt B w v ml) (hB : B ≤ w.heap.size) (hc : Chg (own v) w w') : Below B w w' := by
  refine hc.below hB (fun g hg => ?_)
  rcases hv.2 with ⟨rfl, _⟩ | ⟨g', cap, cur, rfl, h2, h3, h4⟩
  · cases hg
  · have : g = g' := by simpa [own, Value.ownBlock] using hg
    subst this
    exact h2

/-! ### The model's list and the tree's -/
structure Mt (ml es : List It) : Prop where
  dist : Dist ml
  mem : ∀ e, e ∈ ml ↔ e ∈ es
theorem Mt.del {ml es : List It} (h : Mt ml es) (k : ByteArray) : Mt (delL k ml) (delL k es) :=
  ⟨List.Pairwise.filter _ h.dist, fun e => by rw [mem_delL, mem_delL, h.mem]⟩
theorem Mt.put {ml ml' es : List It} (h : Mt ml es) {x : It} (hp : Putted x ml ml') : Mt ml' (putL x es) :=
  ⟨hp.dist, fun e => by rw [hp.mem, mem_putL, h.mem]⟩
/-- Every item's bytes can be read, below block B; sizes bounded. -/
def Good (B : Nat) (w : World) (es : List It) : Prop := ∀ e ∈ es, e.key.size ≤ 1048576 ∧ e.vn ≤ 1048576 ∧ BytB B w e.va e.vn e.vc
theorem Good.below {B : Nat} {w w' : World} {es : List It} (h : Good B w es) (hb : Below B w w') : Good B w' es := fun e he => ⟨(h e he).1, (h e he).2.1, (h e he).2.2.below hb⟩
theorem Good.del {B : Nat} {w : World} {es : List It} (h : Good B w es) (k : ByteArray) : Good B w (delL k es) := fun e he => h e (mem_delL.1 he).1
theorem Good.put {B : Nat} {w : World} {es : List It} (h : Good B w es) {x : It} (hx : x.key.size ≤ 1048576 ∧ x.vn ≤ 1048576 ∧ BytB B w x.va x.vn x.vc) : Good B w (putL x es) := fun e he => by
  rcases mem_putL.1 he with rfl | ⟨h1, _⟩
  · exact hx
  · exact h e h1

/-- What stands behind k operations of a script. -/
structure Ran (tb : Nat) (w0 w : World) (v : Value) (ml es : List It) (k : Nat) : Prop where
  esAt : EsAt tb w v ml
  mt : Mt ml es
  tree : TreeAt noKeep tb w es
  ln : es.length ≤ k
  mll : ml.length ≤ k
  size : sizeL es ≤ k * 2097152
  below : Below tb w0 w
  good : Good tb w es

set_option maxHeartbeats 2000000 in
theorem run_script {tb : Nat} {w : World} {kv vv dv : Value} {nk nv nd : Nat} {K : Nat → ByteArray} {A : Nat → Option Addr} {L C : Nat → Nat} {D : Nat → Bool} (hs : Scr tb w kv vv dv nk nv nd K A L C D) (ht : TreeAt noKeep tb w []) :
    Calls Try.prog 14 #[.pointer (some ⟨tb, 0, none⟩), kv, vv, dv] w fun e w' => ∃ v ml es, e = .returned v ∧ Ran tb w w' v ml es 4096 := by
  have n1 := hs.hk
  obtain ⟨hsk, ka', kc', rfl, hk'⟩ := id hs.keys
  obtain ⟨hsv, va', vc', rfl, hv'⟩ := id hs.vals
  obtain ⟨hsd, da', dc', rfl, hd'⟩ := id hs.dels
  have HS : Hid (Scr tb w (.slice ka' nk kc') (.slice va' nv vc') (.slice da' nd dc') nk nv nd K A L C D ∧ TreeAt noKeep tb w []) := ⟨hs, ht⟩
  clear hs ht hsk hk' hsv hv' hsd hd'
  go_enter Try.func14, Try.ntmps14
  go_wp2_with fail
  go_loopg [9, 10] nk (fun gg vs i wr => ∃ (k : Nat) (ml es : List It), k ≤ nk ∧ gg = nk - k ∧ i = .int .i64 k ∧ Ran tb w wr vs ml es k)
  case atStart => exact ⟨0, [], [], by omega, by omega, rfl, ⟨World.ownsRow_nil _ _ _ _, ⟨List.Pairwise.nil, fun e => Iff.rfl⟩, HS.out.2, by simp, by simp, by simp [sizeL], Below.refl _ _, fun e he => by cases he⟩⟩
  case round =>
    obtain ⟨k, ml, es, hk, hg, rfl, hran⟩ := hrel
    have HG : Hid (gk = nk - k) := hg
    clear hg
    have HRN : Hid (Ran tb w wr _ ml es k) := hran
    by_cases hlt : k < nk
    · have hsc : Scr tb wr (.slice ka' nk kc') (.slice va' nv vc') (.slice da' nd dc') nk nv nd K A L C D := HS.out.1.below hran.below
      have hksz := hsc.ks k hlt
      have hisd := is_delete hsc.dels.toL k
      have hopv := op_value hsc.vals.toL k
      rw [opv_val nv A L C (K k) k] at hopv
      have hov := hsc.opv (K k) k
      have hok := opv_key nv A L C (K k) k
      obtain e0 | ⟨b, off, rfl, hkc⟩ := hsc.keys.toL.open
      · omega
      have h1 := hkc k hlt
      obtain ⟨F', htF, _, hesF⟩ := keep_es hran.tree hran.esAt
      have HSC : Hid (Scr tb wr (.slice (some ⟨b, off, none⟩) nk kc') (.slice va' nv vc') (.slice da' nd dc') nk nv nd K A L C D) := hsc
      have hz1 := hran.size
      clear hsc hran
      have hbk : b < tb := by
        obtain ⟨_, a, c, e, h⟩ := HSC.out.keys
        simp only [Value.slice.injEq, true_and] at e
        obtain ⟨rfl, rfl⟩ := e
        rcases h with h | ⟨b', off', e, hb', _⟩
        · omega
        · cases e; exact hb'
      have HB : Hid (b < tb) := hbk
      clear hbk hkc
      generalize hkk : K k = key at *
      generalize hx : opv nv A L C key k = x at *
      obtain ⟨xk, xa, xn, xc⟩ := x
      simp only at hok hov hopv
      subst hok
      clear hkk hx
      have HXG : Hid (xk.size ≤ 1048576 ∧ xn ≤ 1048576 ∧ BytB tb wr xa xn xc) := ⟨hksz, hov⟩
      generalize (decide (k < nd) && D k) = isd at *
      cases isd with
      | true =>
        clear hopv hov
        have HDL := delete_tree F' tb xk wr es htF (by omega)
        go_wp2_with fail
        refine hisd.mono ?_
        rintro e w4 ⟨rfl, rfl⟩
        go_wp2_with fail
        refine HDL.mono ?_
        rintro e w5 ⟨rfl, htr5, hb5⟩
        have hes5 := hesF w5 _ htr5
        have h2 : w5.cell? ⟨b, off + k, none⟩ = some (.string xk) := (World.cell?_of_block (hb5.block b HB.out)).trans h1
        have HMD := model_delete xk hes5 HRN.out.mt.dist (by have := HRN.out.mll; omega) (Nat.le_of_lt htr5.lt)
        have HT5 : Hid (TreeAt noKeep tb w5 (delL xk es) ∧ Below tb wr w5 ∧ EsAt tb w5 _ ml) := ⟨htr5.bare, hb5, hes5⟩
        clear htr5 hb5 hes5 HDL hisd h1 hesF htF
        go_wp2_with fail
        refine HMD.mono ?_
        rintro e w6 ⟨v', rfl, hes6, hc6⟩
        have HR : Hid (Ran tb w w6 v' (delL xk ml) (delL xk es) (k + 1)) :=
          have hb6 := es_below HT5.out.2.2 (Nat.le_of_lt HT5.out.1.lt) hc6
          ⟨hes6, HRN.out.mt.del xk, es_chg HT5.out.1 HT5.out.2.2 hc6, by have := HRN.out.ln; have := delL_length xk es; omega, by have := HRN.out.mll; have := delL_length xk ml; omega,
            by have := HRN.out.size; have := sizeL_del_le xk es; omega, (HRN.out.below.trans HT5.out.2.1).trans hb6, ((HRN.out.good.below HT5.out.2.1).below hb6).del xk⟩
        clear hes6 hc6 HMD
        go_wp2_with fail
        go_roundg (nk - (k + 1))
        case measure => have := HG.out; omega
        case rel => exact ⟨k + 1, _, _, by omega, rfl, by go_num, HR.out⟩
      | false =>
        have HPT := put_tree F' tb xk xa xn xc wr es htF (by omega)
        clear hov
        go_wp2_with fail
        refine hisd.mono ?_
        rintro e w4 ⟨rfl, rfl⟩
        go_wp2_with fail
        refine hopv.mono ?_
        rintro e w4 ⟨rfl, rfl⟩
        go_wp2_with fail
        refine HPT.mono ?_
        rintro e w5 ⟨rfl, htr5, hb5⟩
        have hes5 := hesF w5 _ htr5
        have h2 : w5.cell? ⟨b, off + k, none⟩ = some (.string xk) := (World.cell?_of_block (hb5.block b HB.out)).trans h1
        have HMP := model_put ⟨xk, xa, xn, xc⟩ hes5 HRN.out.mt.dist (by have := HRN.out.mll; omega) (Nat.le_of_lt htr5.lt)
        have HT5 : Hid (TreeAt noKeep tb w5 (putL ⟨xk, xa, xn, xc⟩ es) ∧ Below tb wr w5 ∧ EsAt tb w5 _ ml) := ⟨htr5.bare, hb5, hes5⟩
        clear htr5 hb5 hes5 HPT hisd hopv h1 hesF htF
        go_wp2_with fail
        refine HMP.mono ?_
        rintro e w6 ⟨v', ml', rfl, hes6, hpu, hc6⟩
        have HR : Hid (Ran tb w w6 v' ml' (putL ⟨xk, xa, xn, xc⟩ es) (k + 1)) :=
          have hb6 := es_below HT5.out.2.2 (Nat.le_of_lt HT5.out.1.lt) hc6
          ⟨hes6, HRN.out.mt.put hpu, es_chg HT5.out.1 HT5.out.2.2 hc6, by have := HRN.out.ln; have := putL_length ⟨xk, xa, xn, xc⟩ es HRN.out.tree.sorted; omega, by have := HRN.out.mll; have := hpu.len; omega,
            by have := HRN.out.size; have h9 := sizeL_put_le ⟨xk, xa, xn, xc⟩ es; simp only at h9; have := HXG.out; omega, (HRN.out.below.trans HT5.out.2.1).trans hb6, ((HRN.out.good.put (x := ⟨xk, xa, xn, xc⟩) HXG.out).below HT5.out.2.1).below hb6⟩
        clear hes6 hc6 HMP hpu
        go_wp2_with fail
        go_roundg (nk - (k + 1))
        case measure => have := HG.out; omega
        case rel => exact ⟨k + 1, _, _, by omega, rfl, by go_num, HR.out⟩
    · obtain rfl : k = nk := by omega
      go_wp2_with fail
      go_ret
      exact ⟨_, ml, es, rfl, ⟨HRN.out.esAt, HRN.out.mt, HRN.out.tree, Nat.le_trans HRN.out.ln n1, Nat.le_trans HRN.out.mll n1, Nat.le_trans HRN.out.size (Nat.mul_le_mul_right _ n1), HRN.out.below, HRN.out.good⟩⟩
end Go.Proofs.Qxb6603401a
