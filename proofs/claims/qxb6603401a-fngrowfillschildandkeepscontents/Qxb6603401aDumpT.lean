import Derived.Test.Qxb6603401aDump
import Derived.Test.Qxb6603401aSame
namespace Go.Proofs.Qxb6603401a
open Go Go.RowKit Go.Deep
set_option linter.unusedSimpArgs false
set_option linter.unusedVariables false

theorem inter_perm : ∀ (I : List It) (E : List (List It)), E.length = I.length + 1 → (inter I E).Perm (I ++ E.flatten)
  | [], [e], _ => by simp [inter]
  | [], [], hl => by simp at hl
  | [], _ :: _ :: _, hl => by simp at hl
  | _ :: _, [], hl => by simp at hl
  | x :: I, e :: E, hl => by
    have ih := inter_perm I E (by simpa using hl)
    simp only [inter, List.flatten_cons]
    refine (List.Perm.append_left e (List.Perm.cons x ih)).trans ?_
    refine List.perm_middle.trans (List.Perm.cons x ?_)
    show (e ++ (I ++ E.flatten)).Perm (I ++ (e ++ E.flatten))
    rw [← List.append_assoc, ← List.append_assoc]
    exact List.perm_append_comm.append_right _

def Tr.dump : {d : Nat} → Tr d → Nat → List Rw
  | 0, t, dep => headRow t.1 dep t.2.length 0 true :: itemRows t.1 dep t.2
  | _ + 1, t, dep => headRow t.1 dep t.2.1.length t.2.2.length false :: itemRows t.1 dep t.2.1 ++ t.2.2.flatMap fun k => Tr.dump k (dep + 1)

theorem sum_le_sum {α : Type} (f g : α → Nat) : ∀ (l : List α), (∀ x ∈ l, f x ≤ g x) → (l.map f).sum ≤ (l.map g).sum
  | [], _ => Nat.le_refl _
  | x :: l, h => by
    have h1 := h x List.mem_cons_self
    have h2 := sum_le_sum f g l (fun y hy => h y (List.mem_cons_of_mem _ hy))
    simp only [List.map_cons, List.sum_cons]
    omega
theorem sum_two {α : Type} (f : α → Nat) : ∀ (l : List α), (l.map fun x => 2 * f x).sum = 2 * (l.map f).sum
  | [] => rfl
  | x :: l => by simp only [List.map_cons, List.sum_cons, sum_two f l]; omega
theorem ents_len {d : Nat} (b : Nat) (its : List It) (ks : List (Tr d)) (h : ks.length = its.length + 1) : (node b its ks).ents.length = its.length + (ks.map fun k => k.ents.length).sum := by
  have := (inter_perm its (ks.map Tr.ents) (by simpa using h)).length_eq
  rw [List.length_append, List.length_flatten, List.map_map] at this
  exact this
theorem ents_mem {d : Nat} {b : Nat} {its : List It} {ks : List (Tr d)} (h : ks.length = its.length + 1) (e : It) : e ∈ (node b its ks).ents ↔ e ∈ its ∨ ∃ k ∈ ks, e ∈ k.ents := by
  have := (inter_perm its (ks.map Tr.ents) (by simpa using h)).mem_iff (a := e)
  show e ∈ inter its (ks.map Tr.ents) ↔ _
  rw [this, List.mem_append, List.mem_flatten]
  constructor
  · rintro (h | ⟨l, hl, he⟩)
    · exact .inl h
    · obtain ⟨k, hk, rfl⟩ := List.mem_map.1 hl
      exact .inr ⟨k, hk, he⟩
  · rintro (h | ⟨k, hk, he⟩)
    · exact .inl h
    · exact .inr ⟨_, List.mem_map.2 ⟨k, hk, rfl⟩, he⟩
theorem Tr.dump_len1 : {d : Nat} → (t : Tr d) → (dep : Nat) → t.Ok 1 → (t.dump dep).length ≤ 2 * t.ents.length
  | 0, (b, its), dep, h => by
    have h1 : 1 ≤ its.length := h.1
    show (headRow b dep its.length 0 true :: itemRows b dep its).length ≤ 2 * its.length
    simp only [List.length_cons, itemRows, List.length_mapIdx]
    omega
  | d + 1, (b, its, ks), dep, h => by
    have h1 : 1 ≤ its.length := h.1
    have hl : ks.length = its.length + 1 := h.2.2.1
    have h2 := sum_le_sum (fun k => (Tr.dump k (dep + 1)).length) (fun k => 2 * k.ents.length) ks (fun k hk => Tr.dump_len1 k (dep + 1) (k.ok_mono (h.2.2.2 k hk) (by have := (k.ok_len (h.2.2.2 k hk)).1; omega)))
    rw [sum_two] at h2
    have h3 := ents_len b its ks hl
    show (headRow b dep its.length ks.length false :: itemRows b dep its ++ ks.flatMap fun k => Tr.dump k (dep + 1)).length ≤ 2 * (node b its ks).ents.length
    simp only [List.length_append, List.length_cons, itemRows, List.length_mapIdx, List.length_flatMap]
    omega
theorem Tr.dump_len : {d : Nat} → (t : Tr d) → (dep m : Nat) → t.Ok m → (t.dump dep).length ≤ 1 + 2 * t.ents.length
  | 0, (b, its), dep, m, h => by
    show (headRow b dep its.length 0 true :: itemRows b dep its).length ≤ 1 + 2 * its.length
    simp only [List.length_cons, itemRows, List.length_mapIdx]
    omega
  | d + 1, (b, its, ks), dep, m, h => by
    have hl : ks.length = its.length + 1 := h.2.2.1
    have h2 := sum_le_sum (fun k => (Tr.dump k (dep + 1)).length) (fun k => 2 * k.ents.length) ks (fun k hk => Tr.dump_len1 k (dep + 1) (k.ok_mono (h.2.2.2 k hk) (by have := (k.ok_len (h.2.2.2 k hk)).1; omega)))
    rw [sum_two] at h2
    have h3 := ents_len b its ks hl
    show (headRow b dep its.length ks.length false :: itemRows b dep its ++ ks.flatMap fun k => Tr.dump k (dep + 1)).length ≤ 1 + 2 * (node b its ks).ents.length
    simp only [List.length_append, List.length_cons, itemRows, List.length_mapIdx, List.length_flatMap]
    omega
/-- Every row's bytes can be read. -/
def RdR (w : World) (rs : List Rw) : Prop := ∀ r ∈ rs, r.vn ≤ 1048576 ∧ Byt w r.va r.vn r.vc
theorem rd_node {w : World} {its : List It} (h : Rd w its) (b : Nat) (dep : Int) (n cc : Nat) (lf : Bool) : RdR w (headRow b dep n cc lf :: itemRows b dep its) := by
  intro r hr
  rcases List.mem_cons.1 hr with rfl | hr
  · exact ⟨Nat.zero_le _, fun _ => 0, none, 0, rfl, .inl rfl⟩
  · obtain ⟨i, hi, rfl⟩ := List.mem_mapIdx.1 hr
    exact h _ (List.getElem_mem hi)
theorem Tr.dump_rd {w : World} : {d : Nat} → (t : Tr d) → (dep m : Nat) → t.Ok m → Rd w t.ents → RdR w (t.dump dep)
  | 0, (b, its), dep, m, h, hr => rd_node hr b dep its.length 0 true
  | d + 1, (b, its, ks), dep, m, h, hr => by
    have hl : ks.length = its.length + 1 := h.2.2.1
    intro r hm
    have hm' : r ∈ (headRow b dep its.length ks.length false :: itemRows b dep its) ++ ks.flatMap fun k => Tr.dump k (dep + 1) := hm
    rcases List.mem_append.1 hm' with hm1 | hm1
    · exact rd_node (fun e he => hr e ((ents_mem (b := b) hl e).2 (.inl he))) b dep _ _ _ r hm1
    · obtain ⟨k, hk, hrk⟩ := List.mem_flatMap.1 hm1
      exact Tr.dump_rd k (dep + 1) 15 (h.2.2.2 k hk) (fun e he => hr e ((ents_mem (b := b) hl e).2 (.inr ⟨k, hk, he⟩))) r hrk

def DumpSpec (d : Nat) : Prop := ∀ (t : Tr d) (m dep B E : Nat) (σ : Store) (w : World) (v : Value) (rs : List Rw), Env noKeep B σ w → t.In σ → t.Ok m → dep + d ≤ 64 → RowsAt E w v rs → E ≤ w.heap.size → (rs ++ t.dump dep).length ≤ 1048576 →
    Calls Try.prog 60 #[ptr t.root, .int .i64 (dep : Nat), v] w fun e w' => ∃ v', e = .returned v' ∧ RowsAt E w' v' (rs ++ t.dump dep) ∧ RS v w v' w'

theorem dump_zero : DumpSpec 0 := by
  intro t m dep B E σ w v rs he hI hok hdep hv hE hn
  obtain ⟨b, its⟩ := t
  have := dump_any b its none true 0 (fun _ => 0) (fun _ => []) dep B E σ w v rs he hI hok.2 (by omega) (by omega) hv hE (by simpa [Tr.dump] using hn)
    (fun W hW => (acc36 b none 0 0 W (hW.rep b _ hI).khdr).mono fun e w' h => h) (fun W hW => (acc37 b none 0 0 W (hW.rep b _ hI).khdr).mono fun e w' h => h) (fun W j hj => by omega) (fun W j v1 rs1 hj => by omega)
  refine this.mono fun e w' h => ?_
  simpa [Tr.dump] using h

theorem range_flatMap {α β : Type} (l : List α) (f : α → List β) : (List.range l.length).flatMap (fun j => (l[j]?.map f).getD []) = l.flatMap f := by
  induction l with
  | nil => rfl
  | cons x l ih =>
    rw [List.length_cons, List.range_succ_eq_map, List.flatMap_cons, List.flatMap_map]
    simp only [List.getElem?_cons_zero, Option.map_some, Option.getD_some, List.flatMap_cons]
    congr 1

theorem dump_succ (d : Nat) (IH : DumpSpec d) : DumpSpec (d + 1) := by
  intro t m dep B E σ w v rs he hI hok hdep hv hE hn
  obtain ⟨b, its, ks⟩ := t
  have hkl : ks.length = its.length + 1 := hok.2.2.1
  have hfl := range_flatMap ks (fun k => Tr.dump k (dep + 1))
  have hde : Tr.dump (d := d + 1) (b, its, ks) dep = headRow b dep its.length ks.length false :: itemRows b dep its ++ (List.range ks.length).flatMap (fun j => (ks[j]?.map fun k => Tr.dump k (dep + 1)).getD []) := by
    rw [hfl]; rfl
  rw [hde, ← List.append_assoc] at hn
  have hkh : ∀ W, Env noKeep B σ W → W.cell? ⟨b + 1, 2, none⟩ = some (.slice (some ⟨b + 2, 0, none⟩) ks.length 32) := fun W hW => by
    have : W.cell? ⟨b + 1, 2, none⟩ = some (.slice (some ⟨b + 2, 0, none⟩) (ks.map Tr.root).length 32) := (hW.rep b _ hI.1).khdr
    rw [List.length_map] at this
    exact this
  have := dump_any b its (some (ks.map Tr.root)) false ks.length (fun j => (ks[j]?.map Tr.root).getD 0) (fun j => (ks[j]?.map fun k => Tr.dump k (dep + 1)).getD []) dep B E σ w v rs he hI.1 hok.2.1 (by omega) (by have := hok.2.1; have h9 : its.length ≤ 31 := hok.2.1; omega) hv hE hn
    (fun W hW => (acc36 b _ _ _ W (hkh W hW)).mono fun e w' h => h) (fun W hW => (acc37 b _ _ _ W (hkh W hW)).mono fun e w' h => h)
    (fun W j hj hW => by
      have hk' : j < (ks.map Tr.root).length := by simpa using hj
      have h1 : W.cell? ⟨b + 2, j, none⟩ = some (ptr (ks.map Tr.root)[j]) := (hW.rep b _ hI.1).kid rfl hk'
      rw [List.getElem_map] at h1
      rw [List.getElem?_eq_getElem hj]
      exact acc38 b j ks.length _ W (hkh W hW) hj h1)
    (fun W j v1 rs1 hj hW hv1 hE1 hn1 => by
      rw [List.getElem?_eq_getElem hj] at hn1 ⊢
      have h2 := IH ks[j] 15 (dep + 1) B E σ W v1 rs1 hW (hI.2 _ (List.getElem_mem hj)) (hok.2.2.2 _ (List.getElem_mem hj)) (by omega) hv1 hE1 hn1
      have ecd : (((dep + 1 : Nat) : Int)) = (dep : Int) + 1 := by omega
      rw [ecd] at h2
      exact h2)
  refine this.mono fun e w' h => ?_
  rw [hde, ← List.append_assoc]
  exact h

theorem dump_all : ∀ d : Nat, DumpSpec d
  | 0 => dump_zero
  | d + 1 => dump_succ d (dump_all d)

/-- dumpTree, the root not nil. -/
theorem dump_tree (tb : Nat) (w : World) (d : Nat) (t : Tr d) (σ : Store) (m : Nat) (hc0 : w.cell? ⟨tb, 0, none⟩ = some (ptr t.root)) (he : Env noKeep (tb + 1) σ w) (hI : t.In σ) (hok : t.Ok m) (hd : d ≤ 64) (hn : t.ents.length ≤ 500000) :
    Calls Try.prog 31 #[.pointer (some ⟨tb, 0, none⟩)] w fun e w' => ∃ v', e = .returned v' ∧ RowsAt w.heap.size w' v' (t.dump 0) ∧ Chg [] w w' := by
  have A18 := acc18 tb _ w hc0
  have hz := binNil30
  have HD := dump_all d t m 0 (tb + 1) w.heap.size σ w (.slice none 0 0) [] he hI hok (by omega) (World.ownsRow_nil _ _ _ _) (Nat.le_refl _) (by have := t.dump_len 0 m hok; rw [List.nil_append]; omega)
  rw [List.nil_append] at HD
  have ecd : (((0 : Nat) : Int)) = 0 := rfl
  rw [ecd] at HD
  clear hc0 he hI hok hd hn
  generalize t.root = r at *
  generalize t.dump 0 = rs at *
  unfold ptr at *
  go_enter Try.func31, Try.ntmps31
  go_wp2_with fail
  refine A18.mono ?_
  rintro e w1 ⟨rfl, rfl⟩
  go_wp2_with fail
  refine HD.mono ?_
  rintro e w5 ⟨v2, rfl, hrw2, hrs2⟩
  have HH : Hid (RowsAt w.heap.size w5 v2 rs ∧ Chg [] w w5) := ⟨hrw2, hrs2.chg⟩
  clear hrw2 hrs2
  go_wp2_with fail
  go_ret
  exact ⟨_, rfl, HH.out.1, HH.out.2⟩
end Go.Proofs.Qxb6603401a
