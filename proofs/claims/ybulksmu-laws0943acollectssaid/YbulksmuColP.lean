import Derived.Test.YbulksmuColI
namespace Go.Proofs.Ybulksmu.ColP
open Go.RowKit Go.Proofs.Ybulksmu.Mem Go.Proofs.Ybulksmu.Lock Go.Proofs.Ybulksmu.Snap Go.Proofs.Ybulksmu.Cont Go.Proofs.Ybulksmu.Cmp Go.Proofs.Ybulksmu.Col9 Go.Proofs.Ybulksmu.ColI

/-! ### A map that is filled -/
theorem pm_set (L : PM) (j : Nat) (s : ByteArray) (x : Option Addr) : pm (L.set j (s, x)) = (pm L).set j (s, .pointer x) := by simp [pm, List.map_set]
theorem findI_pm_some {s : ByteArray} {L : PM} {j : Nat} {v : Value} (h : findI s (pm L) 0 = some (j, v)) : ∃ x, L[j]? = some (s, x) := by
  have := (findI_get s (pm L) 0 j v h).2
  rw [Nat.sub_zero, pm_get] at this
  obtain ⟨q, hq, he⟩ := Option.map_eq_some_iff.1 this
  simp only [Prod.mk.injEq] at he
  exact ⟨q.2, by rw [hq, ← he.1]⟩
theorem findI_pm_none {s : ByteArray} {L : PM} (h : findI s (pm L) 0 = none) : s ∉ L.map (·.1) := by
  rw [findI_none] at h
  intro hs
  obtain ⟨q, hq, rfl⟩ := List.mem_map.1 hs
  exact h (q.1, .pointer q.2) (List.mem_map.2 ⟨q, hq, rfl⟩) rfl
theorem keys_set {L : PM} {j : Nat} {s : ByteArray} {x y : Option Addr} (h : L[j]? = some (s, y)) : (L.set j (s, x)).map (·.1) = L.map (·.1) := by
  apply List.ext_getElem?
  intro i
  rw [List.getElem?_map, List.getElem?_map, List.getElem?_set]
  split
  · rename_i e
    subst e
    obtain ⟨h1, h2⟩ := List.getElem?_eq_some_iff.1 h
    simp [h1, h2]
  · rfl

theorem upd_any {w : World} {b : Nat} {L : PM} (hm : smap w b (pm L)) (s : ByteArray) (x : Option Addr) :
    ∃ w' L', (Instr.mapUpdate 24 (.map (some b)) (.string s) (.pointer x)).run Yba.prog w = .ok () w' ∧ smap w' b (pm L') ∧ w.grownBy w' (some b) ∧ w'.heap.size = w.heap.size ∧
      (∀ t, t ∈ L'.map (·.1) ↔ t ∈ L.map (·.1) ∨ t = s) ∧ ((L.map (·.1)).Nodup → (L'.map (·.1)).Nodup) ∧ L'.length ≤ L.length + 1 := by
  cases hf : findI s (pm L) 0 with
  | none =>
    obtain ⟨w', hrun, hs, hg, hz⟩ := run_update_new Yba.underlying24 Yba.underlying9 hm hf (.pointer x)
    refine ⟨w', L ++ [(s, x)], hrun, by simpa [pm] using hs, hg, hz, fun t => by simp, fun hn => ?_, by simp⟩
    rw [List.map_append, List.nodup_append]
    exact ⟨hn, by simp, fun a ha c hc => by simp at hc; subst hc; exact fun e => findI_pm_none hf (e ▸ ha)⟩
  | some q =>
    obtain ⟨j, v⟩ := q
    obtain ⟨y, hy⟩ := findI_pm_some hf
    obtain ⟨w', hrun, hs, hg, hz⟩ := run_update_old Yba.underlying24 Yba.underlying9 hm hf (.pointer x)
    refine ⟨w', L.set j (s, x), hrun, by rw [pm_set]; exact hs, hg, hz, fun t => ?_, fun hn => by rw [keys_set hy]; exact hn, by simp⟩
    rw [keys_set hy]
    constructor
    · exact Or.inl
    · rintro (h | rfl)
      · exact h
      · exact List.mem_map.2 ⟨_, List.mem_of_getElem? hy, rfl⟩

/-- The map in block b has the keys S. -/
structure FM (W : World) (b : Nat) (S : List ByteArray) (L : PM) (w : World) : Prop where
  map : smap w b (pm L)
  keys : ∀ t, t ∈ L.map (·.1) ↔ t ∈ S
  nd : (L.map (·.1)).Nodup
  len : L.length ≤ S.length
  below : Below W.heap.size W w
theorem FM.upd {W : World} {b : Nat} {S : List ByteArray} {L : PM} {w : World} (h : FM W b S L w) (hb : W.heap.size ≤ b) (s : ByteArray) (x : Option Addr) :
    ∃ w' L', (Instr.mapUpdate 24 (.map (some b)) (.string s) (.pointer x)).run Yba.prog w = .ok () w' ∧ FM W b (S ++ [s]) L' w' ∧ w.grownBy w' (some b) ∧ w'.heap.size = w.heap.size := by
  obtain ⟨w', L', hrun, hs, hg, hz, hk, hn, hl⟩ := upd_any h.map s x
  refine ⟨w', L', hrun, ⟨hs, fun t => ?_, hn h.nd, by rw [List.length_append]; have := h.len; simp; omega, h.below.grown hg h.below.size (fun k hk => by cases hk; exact hb)⟩, hg, hz⟩
  rw [hk t, h.keys t]; simp
theorem FM.alloc {W : World} {b : Nat} {S : List ByteArray} {L : PM} {w : World} (h : FM W b S L w) (o : Obj) : FM W b S L (w.alloc o) :=
  ⟨smap_kept h.map (World.grownBy_alloc _ _ none) (by simp), h.keys, h.nd, h.len, h.below.alloc h.below.size o⟩
theorem FM.kept {W : World} {b : Nat} {S : List ByteArray} {L : PM} {w w' : World} {r : Option Nat} (h : FM W b S L w) (hg : w.grownBy w' r) (hr : ∀ k, r = some k → k ≠ b ∧ W.heap.size ≤ k) : FM W b S L w' :=
  ⟨smap_kept h.map hg (fun e => (hr b e.symm).1 rfl), h.keys, h.nd, h.len, h.below.grown hg h.below.size (fun k hk => (hr k hk).2)⟩

/-! ### What is wanted -/
def sel (L C : PM) (k : ByteArray) : Option Ent := (effP C k ((lookP k L).getD none)).map fun a => (k, a)
/-- Of the first j keys, those that come no more: their entries. -/
def Want (K : List ByteArray) (L C : PM) (j : Nat) (Wt : List Ent) : Prop :=
  ∃ ds : List ByteArray, Wt = ds.filterMap (sel L C) ∧ ds.Nodup ∧ (∀ t ∈ ds, t ∈ K.take j ∧ t ∉ K.drop j) ∧ (∀ t ∈ K.take j, t ∈ ds ∨ t ∈ K.drop j) ∧ ds.length ≤ j
theorem Want.start (K : List ByteArray) (L C : PM) : Want K L C 0 [] := ⟨[], rfl, List.nodup_nil, by simp, by simp, Nat.le_refl _⟩
theorem drop_at {K : List ByteArray} {j : Nat} {k : ByteArray} (h : K[j]? = some k) : K.drop j = k :: K.drop (j + 1) := by
  obtain ⟨h1, h2⟩ := List.getElem?_eq_some_iff.1 h
  rw [List.drop_eq_getElem_cons h1, h2]
theorem take_at {K : List ByteArray} {j : Nat} {k : ByteArray} (h : K[j]? = some k) : K.take (j + 1) = K.take j ++ [k] := by
  rw [List.take_add_one, h]; rfl
/-- A key that comes again. -/
theorem Want.later {K : List ByteArray} {L C : PM} {j : Nat} {Wt : List Ent} {k : ByteArray} (h : Want K L C j Wt) (hk : K[j]? = some k) (hin : k ∈ K.drop (j + 1)) : Want K L C (j + 1) Wt := by
  obtain ⟨ds, h1, h2, h3, h4, h5⟩ := h
  rw [drop_at hk] at h3 h4
  refine ⟨ds, h1, h2, fun t ht => ⟨by rw [take_at hk]; simp [(h3 t ht).1], fun hm => (h3 t ht).2 (by simp [hm])⟩, fun t ht => ?_, by omega⟩
  rw [take_at hk] at ht
  rcases List.mem_append.1 ht with ht | ht
  · rcases h4 t ht with h | h
    · exact Or.inl h
    · rcases List.mem_cons.1 h with rfl | h
      · exact Or.inr hin
      · exact Or.inr h
  · simp at ht; subst ht; exact Or.inr hin
/-- A key's last place. -/
theorem Want.last {K : List ByteArray} {L C : PM} {j : Nat} {Wt : List Ent} {k : ByteArray} (h : Want K L C j Wt) (hk : K[j]? = some k) (hin : k ∉ K.drop (j + 1)) : Want K L C (j + 1) (Wt ++ (sel L C k).toList) := by
  obtain ⟨ds, h1, h2, h3, h4, h5⟩ := h
  rw [drop_at hk] at h3 h4
  refine ⟨ds ++ [k], ?_, ?_, fun t ht => ?_, fun t ht => ?_, by simp; omega⟩
  · rw [List.filterMap_append, ← h1]
    cases hs : sel L C k <;> simp [hs]
  · rw [List.nodup_append]
    exact ⟨h2, by simp, fun a ha b hb => by simp at hb; subst hb; exact fun e => (h3 a ha).2 (by simp [e])⟩
  · rcases List.mem_append.1 ht with ht | ht
    · exact ⟨by rw [take_at hk]; simp [(h3 t ht).1], fun hm => (h3 t ht).2 (by simp [hm])⟩
    · simp at ht; subst ht; exact ⟨by rw [take_at hk]; simp, hin⟩
  · rw [take_at hk] at ht
    rcases List.mem_append.1 ht with ht | ht
    · rcases h4 t ht with h | h
      · exact Or.inl (by simp [h])
      · rcases List.mem_cons.1 h with rfl | h
        · exact Or.inl (by simp)
        · exact Or.inr h
    · simp at ht; subst ht; exact Or.inl (by simp)
theorem lookP_mem {L : PM} (hn : (L.map (·.1)).Nodup) {s : ByteArray} {x : Option Addr} (h : (s, x) ∈ L) : lookP s L = some x := by
  induction L with
  | nil => simp at h
  | cons q r ih =>
    simp only [List.map_cons, List.nodup_cons] at hn
    by_cases e : s = q.1
    · rcases List.mem_cons.1 h with rfl | h
      · simp [lookP]
      · exact absurd (List.mem_map.2 ⟨_, h, e⟩) hn.1
    · rcases List.mem_cons.1 h with rfl | h
      · exact absurd rfl e
      · simp [lookP, e]; exact ih hn.2 h
theorem filterMap_congr {α β : Type} {f g : α → Option β} : ∀ {l : List α}, (∀ a ∈ l, f a = g a) → l.filterMap f = l.filterMap g
  | [], _ => rfl
  | a :: r, h => by rw [List.filterMap_cons, List.filterMap_cons, h a (by simp), filterMap_congr (fun b hb => h b (by simp [hb]))]
theorem effs_sel {L : PM} (C : PM) (hn : (L.map (·.1)).Nodup) : effs C L = (L.map (·.1)).filterMap (sel L C) := by
  unfold effs
  rw [List.filterMap_map]
  apply filterMap_congr
  intro q hq
  obtain ⟨s, x⟩ := q
  simp [eff, sel, lookP_mem hn hq]
/-- All that is wanted is just what the walk hands over. -/
theorem Want.perm {K : List ByteArray} {L C : PM} {Wt : List Ent} (h : Want K L C K.length Wt) (hn : (L.map (·.1)).Nodup) (hk : ∀ t, t ∈ L.map (·.1) ↔ t ∈ K) : Wt.Perm (effs C L) := by
  obtain ⟨ds, rfl, h2, h3, h4, _⟩ := h
  rw [effs_sel C hn]
  apply List.Perm.filterMap
  rw [List.perm_ext_iff_of_nodup h2 hn]
  intro t
  rw [hk t]
  rw [List.take_length] at h3 h4
  rw [List.drop_length] at h4
  constructor
  · exact fun h => (h3 t h).1
  · intro h
    rcases h4 t h with h | h
    · exact h
    · simp at h
theorem Want.keys {K : List ByteArray} {L C : PM} {j : Nat} {Wt : List Ent} (h : Want K L C j Wt) : (Wt.map (·.1)).Nodup ∧ Wt.length ≤ j := by
  obtain ⟨ds, rfl, h2, _, _, h5⟩ := h
  refine ⟨?_, Nat.le_trans (List.length_filterMap_le _ _) h5⟩
  have hs : ∀ (l : List ByteArray), ((l.filterMap (sel L C)).map (·.1)).Sublist l := by
    intro l
    induction l with
    | nil => exact List.Sublist.refl _
    | cons k r ih =>
      cases hk : sel L C k with
      | none => rw [List.filterMap_cons_none hk]; exact ih.cons _
      | some e =>
        rw [List.filterMap_cons_some hk]
        have : e.1 = k := by
          simp only [sel] at hk
          obtain ⟨a, _, rfl⟩ := Option.map_eq_some_iff.1 hk
          rfl
        rw [List.map_cons, this]; exact ih.cons_cons _
  exact (hs ds).nodup h2
end Go.Proofs.Ybulksmu.ColP
