import Derived.WalkKit
import Derived.ProofKit
import Derived.Maps.RangeWalk
import Derived.Maps.OwnOps
import Derived.Maps.OwnSet
namespace Go.Proofs.Ybulksmu.Mem
open Go.RowKit
open Go.ChangeMaps (setBlock)
open Go.MapKept (IsKey bytes_beq)

theorem hide {p : Prop} (h : p) : Hid p := h

/-! ### A map keyed by strings, as it lies in memory: nothing is ever deleted, so entry i bears the stamp i -/
/-- A map's content: its keys and values in the order in which the keys came. -/
abbrev SM := List (ByteArray × Value)
def ents : Nat → SM → List MapEntry
  | _, [] => []
  | i, p :: r => { key := .string p.1, val := p.2, born := i } :: ents (i + 1) r
def smap (w : World) (b : Nat) (M : SM) : Prop := w.heap[b]? = some (.map (ents 0 M).toArray M.length)
def findI (s : ByteArray) : SM → Nat → Option (Nat × Value)
  | [], _ => none
  | p :: r, i => if s = p.1 then some (i, p.2) else findI s r (i + 1)
def has (M : SM) (s : ByteArray) : Bool := (findI s M 0).isSome
def valAt (z : Value) (M : SM) (s : ByteArray) : Value := ((findI s M 0).map (·.2)).getD z

theorem ents_length (M : SM) : ∀ i, (ents i M).length = M.length := by
  induction M with
  | nil => intro i; rfl
  | cons p r ih => intro i; simp [ents, ih]
theorem ents_append (A B : SM) : ∀ i, ents i (A ++ B) = ents i A ++ ents (i + A.length) B := by
  induction A with
  | nil => intro i; simp [ents]
  | cons p r ih => intro i; simp [ents, ih, Nat.add_assoc, Nat.add_comm 1]
theorem ents_get (M : SM) : ∀ (i j : Nat), (ents i M)[j]? = (M[j]?).map fun p => ({ key := .string p.1, val := p.2, born := i + j } : MapEntry) := by
  induction M with
  | nil => intro i j; simp [ents]
  | cons p r ih =>
    intro i j
    cases j with
    | zero => simp [ents]
    | succ j => simp only [ents, List.getElem?_cons_succ, ih]; rw [show i + 1 + j = i + (j + 1) by omega]
theorem ents_born (M : SM) : ∀ i, (ents i M).map (·.born) = List.range' i M.length := by
  induction M with
  | nil => intro i; rfl
  | cons p r ih => intro i; simp [ents, ih, List.range'_succ]
theorem ents_mem {M : SM} {e : MapEntry} (h : e ∈ ents 0 M) : ∃ (i : Nat) (p : ByteArray × Value), M[i]? = some p ∧ e = { key := .string p.1, val := p.2, born := i } := by
  obtain ⟨i, hi⟩ := List.mem_iff_getElem?.1 h
  rw [ents_get] at hi
  obtain ⟨p, hp, he⟩ := Option.map_eq_some_iff.1 hi
  exact ⟨i, p, hp, by simpa using he.symm⟩
theorem ents_set (M : SM) : ∀ i j s v p, M[j]? = some p → p.1 = s → (ents i M).modify j (fun e => { e with key := .string s, val := v }) = ents i (M.set j (s, v)) := by
  induction M with
  | nil => intro i j s v p h; simp at h
  | cons q r ih =>
    intro i j s v p h hs
    cases j with
    | zero => simp [ents]
    | succ j => simp [ents]; exact ih (i + 1) j s v p (by simpa using h) hs

theorem findNow_ents (s : ByteArray) (M : SM) : ∀ i k, Instr.findNow .string (.string s) (ents k M) i = some (findI s M i) := by
  induction M with
  | nil => intro i k; rfl
  | cons p r ih =>
    intro i k
    by_cases h : s = p.1
    · subst h
      have : (p.1 == p.1) = true := (bytes_beq _ _).2 rfl
      simp only [ents, Instr.findNow, Instr.sameNow, this, findI, if_true]
    · have : (s == p.1) = false := by
        cases hb : s == p.1
        · rfl
        · exact absurd ((bytes_beq _ _).1 hb) h
      simp [ents, Instr.findNow, Instr.sameNow, this, findI, h, ih]

theorem findI_get (s : ByteArray) (M : SM) : ∀ i j v, findI s M i = some (j, v) → i ≤ j ∧ M[j - i]? = some (s, v) := by
  induction M with
  | nil => intro i j v h; simp [findI] at h
  | cons p r ih =>
    intro i j v h
    by_cases e : s = p.1
    · simp [findI, e] at h
      obtain ⟨rfl, rfl⟩ := h
      refine ⟨Nat.le_refl _, ?_⟩
      simp [e]
    · simp [findI, e] at h
      obtain ⟨h1, h2⟩ := ih _ _ _ h
      refine ⟨by omega, ?_⟩
      rw [show j - i = (j - (i + 1)) + 1 by omega]
      simpa using h2
theorem findI_none (s : ByteArray) (M : SM) : ∀ i, findI s M i = none ↔ ∀ p ∈ M, p.1 ≠ s := by
  induction M with
  | nil => intro i; simp [findI]
  | cons p r ih =>
    intro i
    by_cases e : s = p.1
    · simp [findI, e]
    · simp [findI, e, ih]; intro _ h; exact e h.symm
theorem findI_append (s : ByteArray) (A B : SM) : ∀ i, findI s (A ++ B) i = (findI s A i).or (findI s B (i + A.length)) := by
  induction A with
  | nil => intro i; simp [findI]
  | cons p r ih =>
    intro i
    by_cases e : s = p.1
    · simp [findI, e]
    · simp [findI, e, ih, Nat.add_assoc, Nat.add_comm 1]

section
variable {P : Program} {w : World} {t k e : TypeId} {b : Nat} {M : SM}

theorem isKey_string (s : ByteArray) : IsKey .string (.string s) := by simp [IsKey]

/-- 'm[s]', 'v, ok := m[s]'. -/
theorem run_lookup_s (ht : P.underlying t = some (.map k e)) (hk : P.underlying k = some .string) {z : Value} (hz : (zeroValue e).run P w = .ok z w) (hm : smap w b M) (s : ByteArray) (ok : Bool) :
    (Instr.lookup t (.map (some b)) (.string s) ok).run P w = .ok (if ok then .tuple #[valAt z M s, .bool (has M s)] else valAt z M s) w := by
  unfold smap at hm
  have hf : (Instr.findKey k (.string s) (ents 0 M)).run P w = .ok (findI s M 0) w := MapKept.run_findKey hk (findNow_ents s M 0 0)
  unfold Instr.lookup
  simp only [Sem.run_bind, run_underlying ht, Result.andThen, MapKept.run_getObj_map hm, MapKept.run_checkKey hk (isKey_string s), Sem.run_pure, hf]
  unfold valAt has
  cases hc : findI s M 0 with
  | none => cases ok <;> simp [hz, Result.andThen]
  | some q => cases ok <;> simp

/-- .. in a nil map. -/
theorem run_lookup_nil (ht : P.underlying t = some (.map k e)) (hk : P.underlying k = some .string) {z : Value} (hz : (zeroValue e).run P w = .ok z w) (s : ByteArray) (ok : Bool) :
    (Instr.lookup t (.map none) (.string s) ok).run P w = .ok (if ok then .tuple #[z, .bool false] else z) w := by
  have hf : (Instr.findKey k (.string s) []).run P w = .ok none w := MapKept.run_findKey hk (findNow_ents s [] 0 0)
  unfold Instr.lookup
  simp only [Sem.run_bind, run_underlying ht, Result.andThen, MapKept.run_checkKey hk (isKey_string s), Sem.run_pure, hf]
  cases ok <;> simp [hz]

/-- What an operation on ONE block leaves: that block anew, all else as it was, no block more. -/
structure Turned (w w' : World) (b : Nat) (o : Obj) : Prop where
  os : w'.os = w.os
  tape : w'.tape = w.tape
  output : w'.output = w.output
  size : w'.heap.size = w.heap.size
  same : w'.heap[b]? = some o
  other : ∀ i, i ≠ b → w'.heap[i]? = w.heap[i]?

theorem turned_setBlock {o' : Obj} (hb : w.heap[b]? = some o') (o : Obj) : Turned w (setBlock w b o) b o := by
  have hlt : b < w.heap.size := (Array.getElem?_eq_some_iff.1 hb).1
  exact ⟨rfl, rfl, rfl, by simp [setBlock], by simp [setBlock, hlt], fun i hi => by simp [setBlock, Ne.symm hi]⟩

theorem Turned.grown {o : Obj} {w' : World} (h : Turned w w' b o) : w.grownBy w' (some b) :=
  ⟨h.os, h.tape, h.output, Nat.le_of_eq h.size.symm, fun i _ hi => h.other i (fun e => hi (by rw [e]))⟩

/-- 'm[s] = v' at a key that is not there. -/
theorem run_update_new (ht : P.underlying t = some (.map k e)) (hk : P.underlying k = some .string) (hm : smap w b M) {s : ByteArray} (hs : findI s M 0 = none) (v : Value) :
    ∃ w', (Instr.mapUpdate t (.map (some b)) (.string s) v).run P w = .ok () w' ∧ smap w' b (M ++ [(s, v)]) ∧ w.grownBy w' (some b) ∧ w'.heap.size = w.heap.size := by
  have hm' := hm
  unfold smap at hm'
  have hf : (Instr.findKey k (.string s) (ents 0 M)).run P w = .ok none w := by rw [MapKept.run_findKey hk (findNow_ents s M 0 0), hs]
  have T := turned_setBlock hm' (.map (ents 0 (M ++ [(s, v)])).toArray (M.length + 1))
  refine ⟨_, ?_, ?_, T.grown, T.size⟩
  · unfold Instr.mapUpdate
    simp only [Sem.run_bind, run_underlying ht, Result.andThen, MapKept.run_getObj_map hm', MapKept.run_checkKey hk (isKey_string s), hf, MapKept.run_setObj_map _ hm']
    simp [setBlock, ents_append, ents]
  · unfold smap; rw [T.same]; simp

theorem run_keyThatStays (s : ByteArray) (w : World) : (Instr.keyThatStays (.string s) (.string s)).run P w = .ok (.string s) w := by
  have h : (s == s) = true := (bytes_beq s s).2 rfl
  simp [Instr.keyThatStays, Instr.sameBits, h]

/-- 'm[s] = v' at a key that is there. -/
theorem run_update_old (ht : P.underlying t = some (.map k e)) (hk : P.underlying k = some .string) (hm : smap w b M) {s : ByteArray} {j : Nat} {v0 : Value} (hs : findI s M 0 = some (j, v0)) (v : Value) :
    ∃ w', (Instr.mapUpdate t (.map (some b)) (.string s) v).run P w = .ok () w' ∧ smap w' b (M.set j (s, v)) ∧ w.grownBy w' (some b) ∧ w'.heap.size = w.heap.size := by
  have hm' := hm
  unfold smap at hm'
  have hf : (Instr.findKey k (.string s) (ents 0 M)).run P w = .ok (some (j, v0)) w := by rw [MapKept.run_findKey hk (findNow_ents s M 0 0), hs]
  have hg : M[j]? = some (s, v0) := by simpa using (findI_get s M 0 j v0 hs).2
  have T := turned_setBlock hm' (.map (ents 0 (M.set j (s, v))).toArray M.length)
  refine ⟨_, ?_, ?_, T.grown, T.size⟩
  · have hkey : ((((ents 0 M).toArray[j]?).map (·.key)).getD (.string s)) = .string s := by
      simp [ents_get, hg]
    unfold Instr.mapUpdate
    simp only [Sem.run_bind, run_underlying ht, Result.andThen, MapKept.run_getObj_map hm', MapKept.run_checkKey hk (isKey_string s), hf, hkey, run_keyThatStays, MapKept.run_setObj_map _ hm']
    simp [setBlock, ents_set M 0 j s v (s, v0) hg rfl]
  · unfold smap; rw [T.same]; simp

theorem smap_kept {w' : World} {row : Option Nat} (h : smap w b M) (hg : w.grownBy w' row) (hne : some b ≠ row) : smap w' b M := by
  unfold smap at *
  rw [hg.block b (Array.getElem?_eq_some_iff.1 h).1 hne]; exact h
theorem smap_made (w : World) : smap (w.alloc (.map #[] 0)) w.heap.size [] := by
  unfold smap; rw [heap_alloc_new]; rfl
theorem run_len_s (ht : P.underlying t = some (.map k e)) (hm : smap w b M) (ty : TypeId) : (Builtin.len_ #[t] ty #[.map (some b)]).run P w = .ok (.int .i64 (M.length : Nat)) w := by
  unfold smap at hm
  simp [Builtin.len_, run_underlying ht, MapKept.run_getObj_map hm, Result.andThen, ents_length, goInt]
end

/-! ### Ranging over such a map whose values are pointers -/
abbrev PM := List (ByteArray × Option Addr)
def pm (L : PM) : SM := L.map fun q => (q.1, .pointer q.2)
theorem pm_length (L : PM) : (pm L).length = L.length := by simp [pm]
theorem pm_get (L : PM) (i : Nat) : (pm L)[i]? = (L[i]?).map fun q => (q.1, .pointer q.2) := by simp [pm]

/-- The iterator over map b in block r, which has passed the entries 'seen'. -/
def iterAt (w : World) (r b n : Nat) (seen : List Nat) : Prop := w.heap[r]? = some (.mapIter (some b) n seen.toArray n)

section
variable {P : Program} (w : World) {ops : Array Oper} {rest : List Oper} {o : Oper} {a : Act} {Q : Exit → Act → World → Prop}

theorem wpList_range_s (hg : o.guard = none) (m : Operand) (t k e : TypeId) (hop : o.op = Op.range t m) (ht : P.underlying t = some (.map k e)) (b : Nat) (L : PM) (hv : a.eval m = .map (some b)) (hm : smap w b (pm L))
    (hK : ∀ w', iterAt w' w.heap.size b L.length [] → w.grownBy w' none → w'.heap.size = w.heap.size + 1 → wpList P ops Q rest (a.put o.dst (.pointer (some ⟨w.heap.size, 0, none⟩))) w') :
    wpList P ops Q (o :: rest) a w := by
  refine wpList_plain hg fun K' hK' => ?_
  have hrun := run_range_map (P := P) w t k e b _ _ ht hm
  unfold Oper.wp
  simp [execOp, hop, hv, hrun, Result.andThen]
  refine hK' _ _ (hK _ ?_ (World.grownBy_alloc _ _ _) (by simp))
  unfold iterAt
  rw [heap_alloc_new, pm_length]

theorem wpList_next_s (hg : o.guard = none) (it : Operand) (hop : o.op = Op.next it false) (b r : Nat) (L : PM) (seen : List Nat) (hit : a.eval it = .pointer (some ⟨r, 0, none⟩)) (hm : smap w b (pm L)) (hr : iterAt w r b L.length seen)
    (hDone : (∀ i, i < L.length → i ∈ seen) → wpList P ops Q rest (a.put o.dst (.tuple #[.bool false])) w)
    (hMore : ∀ (i : Nat) (s : ByteArray) (x : Option Addr) (w' : World), L[i]? = some (s, x) → i ∉ seen → iterAt w' r b L.length (seen ++ [i]) → w.grownBy w' (some r) → w'.heap.size = w.heap.size →
      (Instr.entry (.pointer (some ⟨r, 0, none⟩))).run P w' = .ok (.tuple #[.string s, .pointer x]) w' → wpList P ops Q rest (a.put o.dst (.tuple #[.bool true, .string s, .pointer x])) w') :
    wpList P ops Q (o :: rest) a w := by
  refine wpList_plain hg fun K' hK' => ?_
  unfold Oper.wp
  have hm' := hm
  unfold smap at hm'
  unfold iterAt at hr
  have hold : ∀ x ∈ (ents 0 (pm L)).toArray.toList, x.born < L.length := by
    intro x hx
    obtain ⟨i, p, hp, rfl⟩ := ents_mem (by simpa using hx)
    have := (List.getElem?_eq_some_iff.1 hp).1
    rw [pm_length] at this
    exact this
  rcases run_next_at (P := P) w o.type r b L.length L.length seen.toArray _ _ hr hm' hold (Nat.le_refl _) with ⟨h0, hrun⟩ | ⟨en, hen, w1, hw1, hrun⟩
  · simp [execOp, hop, hit, hrun, Result.andThen]
    refine hK' _ _ (hDone fun i hi => ?_)
    unfold leftOf at h0
    have he : ((ents 0 (pm L)).toArray.filter fun e => !seen.toArray.contains e.born) = #[] := Array.eq_empty_of_size_eq_zero h0
    rw [Array.filter_eq_empty_iff] at he
    obtain ⟨p, hp⟩ : ∃ p, (pm L)[i]? = some p := ⟨_, List.getElem?_eq_getElem (by rw [pm_length]; exact hi)⟩
    have hmem : ({ key := .string p.1, val := p.2, born := i } : MapEntry) ∈ (ents 0 (pm L)).toArray := by
      rw [List.mem_toArray]
      refine List.mem_iff_getElem?.2 ⟨i, ?_⟩
      rw [ents_get, hp]; simp
    have := he _ hmem
    simpa using this
  · unfold leftOf at hen
    simp only [Array.toList_filter, List.mem_filter] at hen
    obtain ⟨hen1, hen2⟩ := hen
    obtain ⟨i, p, hp, rfl⟩ := ents_mem hen1
    rw [pm_get] at hp
    obtain ⟨q, hq, rfl⟩ := Option.map_eq_some_iff.1 hp
    have hr1 : w1.heap[r]? = some (.mapIter (some b) L.length seen.toArray L.length) := by rcases hw1 with rfl | rfl <;> exact hr
    have hrb : b ≠ r := by rintro rfl; rw [hr] at hm'; cases hm'
    have T := turned_setBlock hr1 (.mapIter (some b) L.length (seen ++ [i]).toArray (pm L).length)
    have hb1 : w1.heap[b]? = w.heap[b]? := by rcases hw1 with rfl | rfl <;> rfl
    have hs1 : w1.heap.size = w.heap.size := by rcases hw1 with rfl | rfl <;> rfl
    have hg1 : w.grownBy (setBlock w1 r (.mapIter (some b) L.length (seen ++ [i]).toArray (pm L).length)) (some r) := by
      have := T.grown
      rcases hw1 with rfl | rfl
      · exact this
      · exact ⟨this.os, this.tape, this.output, this.size, this.block⟩
    have hentry := run_entry_at (P := P) (setBlock w1 r (.mapIter (some b) L.length (seen ++ [i]).toArray (pm L).length)) r b L.length seen.toArray _ _ { key := .string q.1, val := .pointer q.2, born := i } (by rw [T.same]; simp) ((T.other b hrb).trans (hb1.trans hm')) (List.mem_toArray.1 (by simpa using hen1)) (by simp [ents_born, List.nodup_range'])
    simp only [List.push_toArray] at hrun
    generalize (setBlock w1 r (.mapIter (some b) L.length (seen ++ [i]).toArray (pm L).length)) = w2 at T hg1 hentry hrun
    simp [execOp, hop, hit, hrun, Result.andThen]
    refine hK' _ _ (hMore i q.1 q.2 _ hq ?_ ?_ hg1 (T.size.trans hs1) hentry)
    · simpa using hen2
    · unfold iterAt; rw [T.same, pm_length]
end

end Go.Proofs.Ybulksmu.Mem
