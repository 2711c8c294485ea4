import Derived.Test.YbulksmuLock
namespace Go.Proofs.Ybulksmu.Snap
open Go.RowKit Go.Proofs.Ybulksmu.Mem Go.Proofs.Ybulksmu.Lock

/-! ### The plain side of walkSnapshot -/
/-- A key with the pointer that counts for it. -/
abbrev Ent := ByteArray × Addr
def lookP (s : ByteArray) : PM → Option (Option Addr)
  | [] => none
  | q :: r => if s = q.1 then some q.2 else lookP s r
/-- What 'changed' makes of an entry. -/
def effP (C : PM) (s : ByteArray) (x : Option Addr) : Option Addr := (lookP s C).getD x
def eff (C : PM) (q : ByteArray × Option Addr) : Option Ent := (effP C q.1 q.2).map fun a => (q.1, a)
def effs (C L : PM) : List Ent := L.filterMap (eff C)
def visE (C L : PM) (vis : List Nat) : List Ent := vis.filterMap fun i => (L[i]?).bind (eff C)

theorem findI_pm (s : ByteArray) (C : PM) : ∀ i, (findI s (pm C) i).map (·.2) = (lookP s C).map Value.pointer := by
  induction C with
  | nil => intro i; rfl
  | cons q r ih =>
    intro i
    by_cases h : s = q.1
    · simp [pm, findI, lookP, h]
    · have := ih (i + 1)
      simp only [pm] at this
      simp [pm, findI, lookP, h, this]
theorem valAt_pm (s : ByteArray) (C : PM) : valAt (.pointer none) (pm C) s = .pointer ((lookP s C).getD none) := by
  unfold valAt
  rw [findI_pm]
  cases lookP s C <;> rfl
theorem has_pm (s : ByteArray) (C : PM) : has (pm C) s = (lookP s C).isSome := by
  unfold has
  have := findI_pm s C 0
  cases h : findI s (pm C) 0 <;> cases h2 : lookP s C <;> simp_all

theorem visE_append (C L : PM) (a b : List Nat) : visE C L (a ++ b) = visE C L a ++ visE C L b := by simp [visE]
theorem visE_range (C L : PM) : visE C L (List.range L.length) = effs C L := by
  unfold visE effs
  have h : ∀ (M : PM) (f : Nat → Option (ByteArray × Option Addr)), (∀ i, i < M.length → f i = M[i]?) → (List.range M.length).filterMap (fun i => (f i).bind (eff C)) = M.filterMap (eff C) := by
    intro M
    induction M with
    | nil => intro f _; rfl
    | cons q r ih =>
      intro f hf
      rw [List.length_cons, List.range_succ_eq_map, List.filterMap_cons, List.filterMap_map]
      have h0 : f 0 = some q := by simpa using hf 0 (by simp)
      have hr := ih (fun i => f (i + 1)) (fun i hi => by simpa using hf (i + 1) (by simp; omega))
      have hr' : List.filterMap ((fun i => (f i).bind (eff C)) ∘ Nat.succ) (List.range r.length) = r.filterMap (eff C) := hr
      rw [hr', List.filterMap_cons]
      simp only [h0, Option.bind_some]
  exact h L _ (fun _ _ => rfl)
theorem rest_of (n : Nat) : ∀ (vis : List Nat), vis.Nodup → (∀ i ∈ vis, i < n) → ∃ rem, (vis ++ rem).Perm (List.range n) := by
  intro vis hn hl
  refine ⟨(List.range n).filter fun i => decide (i ∉ vis), ?_⟩
  have h1 : (List.range n).Perm ((List.range n).filter (fun i => decide (i ∈ vis)) ++ (List.range n).filter fun i => !decide (i ∈ vis)) := (List.filter_append_perm _ _).symm
  have h2 : vis.Perm ((List.range n).filter fun i => decide (i ∈ vis)) := by
    rw [List.perm_ext_iff_of_nodup hn (List.nodup_range.filter _)]
    intro i
    simp
    exact fun h => hl i h
  refine (h2.append ?_).trans h1.symm
  simp
theorem perm_of_all {n : Nat} {vis : List Nat} (hn : vis.Nodup) (hl : ∀ i ∈ vis, i < n) (ha : ∀ i, i < n → i ∈ vis) : vis.Perm (List.range n) := by
  rw [List.perm_ext_iff_of_nodup hn List.nodup_range]
  intro i
  simp
  exact ⟨hl i, ha i⟩
theorem visE_rest (C L : PM) {vis : List Nat} (hn : vis.Nodup) (hl : ∀ i ∈ vis, i < L.length) : ∃ R, (visE C L vis ++ R).Perm (effs C L) := by
  obtain ⟨rem, hr⟩ := rest_of L.length vis hn hl
  refine ⟨visE C L rem, ?_⟩
  rw [← visE_append, ← visE_range]
  exact hr.filterMap _
theorem visE_all (C L : PM) {vis : List Nat} (hn : vis.Nodup) (hl : ∀ i ∈ vis, i < L.length) (ha : ∀ i, i < L.length → i ∈ vis) : (visE C L vis).Perm (effs C L) := by
  rw [← visE_range]
  exact (perm_of_all hn hl ha).filterMap _
theorem visE_one (C L : PM) {i : Nat} {s : ByteArray} {x : Option Addr} (h : L[i]? = some (s, x)) : visE C L [i] = ((effP C s x).map fun a => (s, a)).toList := by
  simp only [visE, List.filterMap_cons, List.filterMap_nil, h, Option.bind_some, eff]
  cases effP C s x <;> rfl

/-! ### What the walk asks of its caller -/
def kv (e : Ent) : Value := .string e.1
def vv (e : Ent) : Value := .pointer (some e.2)
def errV : Option Addr → Value
  | none => .nilIface
  | some a => .iface 115 (.pointer (some a))
/-- Nothing has turned but the walk's own three blocks (B, B + 1, B + 2), the lock's, and new ones. -/
structure Stay (B lb : Nat) (w w' : World) : Prop where
  os : w'.os = w.os
  tape : w'.tape = w.tape
  output : w'.output = w.output
  size : w.heap.size ≤ w'.heap.size
  block : ∀ k, k < w.heap.size → k ≠ lb → ¬ (B ≤ k ∧ k < B + 3) → w'.heap[k]? = w.heap[k]?
theorem Stay.refl (B lb : Nat) (w : World) : Stay B lb w w := ⟨rfl, rfl, rfl, Nat.le_refl _, fun _ _ _ _ => rfl⟩
theorem Stay.trans {B lb : Nat} {a b c : World} (h : Stay B lb a b) (k : Stay B lb b c) : Stay B lb a c :=
  ⟨k.os.trans h.os, k.tape.trans h.tape, k.output.trans h.output, Nat.le_trans h.size k.size, fun i hi h1 h2 => (k.block i (Nat.lt_of_lt_of_le hi h.size) h1 h2).trans (h.block i hi h1 h2)⟩
theorem Stay.grown {B lb : Nat} {w w' : World} {r : Option Nat} (h : w.grownBy w' r) (hr : ∀ k, r = some k → k = lb ∨ (B ≤ k ∧ k < B + 3)) : Stay B lb w w' :=
  ⟨h.os, h.tape, h.output, h.size, fun i hi h1 h2 => h.block i hi fun e => by
    rcases hr i e.symm with h' | h'
    · exact h1 h'
    · exact h2 h'⟩
theorem Stay.alloc (B lb : Nat) (w : World) (o : Obj) : Stay B lb w (w.alloc o) := Stay.grown (World.grownBy_alloc w o none) (fun k hk => by cases hk)

/-- The caller's side: what lies in memory between two calls of fn ('I ev D': the entries D have been handed over; ev: the error that fn has answered). -/
structure Client (I : Option Addr → List Ent → World → Prop) (B lb mb : Nat) (L C : PM) (cv : Value) : Prop where
  map : ∀ {ev D w}, I ev D w → smap w mb (pm L)
  chg : ∀ {ev D w}, I ev D w → ∀ s, (Instr.lookup 24 cv (.string s) true).run Yba.prog w = .ok (.tuple #[.pointer ((lookP s C).getD none), .bool (lookP s C).isSome]) w
  stay : ∀ {ev D w w'}, I ev D w → Stay B lb w w' → I ev D w'
/-- fn, at one call. -/
def FnOk (I : Option Addr → List Ent → World → Prop) (B lb : Nat) (L C : PM) (f : Nat) (caps : Array Value) : Prop :=
  ∀ (D bt : List Ent) (n : Nat) (w : World), I none D w → lk w lb false n n →
    w.ownsRow B 9 1 (.slice (some ⟨B, 0, none⟩) bt.length 256) bt.length (bt.map kv) → w.ownsRow B 25 1 (.slice (some ⟨B + 1, 0, none⟩) bt.length 256) bt.length (bt.map vv) →
    (∃ R, (D ++ bt ++ R).Perm (effs C L) ∧ (bt.length = 256 ∨ R = [])) → D.length % 256 = 0 → 0 < bt.length → bt.length ≤ 256 → B + 3 ≤ w.heap.size →
    Calls Yba.prog f (#[.slice (some ⟨B, 0, none⟩) bt.length 256, .slice (some ⟨B + 1, 0, none⟩) bt.length 256] ++ caps) w fun e w' =>
      ∃ ev, e = .returned (errV ev) ∧ I ev (D ++ bt) w' ∧ w'.heap[lb]? = w.heap[lb]? ∧ (∀ k, B ≤ k → k < B + 3 → w'.heap[k]? = w.heap[k]?) ∧ w.heap.size ≤ w'.heap.size
end Go.Proofs.Ybulksmu.Snap
