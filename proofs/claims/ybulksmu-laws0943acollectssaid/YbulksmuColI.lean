import Derived.Test.YbulksmuCol9
namespace Go.Proofs.Ybulksmu.ColI
open Go.RowKit Go.Proofs.Ybulksmu.Mem Go.Proofs.Ybulksmu.Lock Go.Proofs.Ybulksmu.Snap Go.Proofs.Ybulksmu.Cont Go.Proofs.Ybulksmu.Cmp Go.Proofs.Ybulksmu.Col9

/-- Where the law's variables lie. -/
structure Cfg where
  (bLk bGood bG lb mb cb : Nat)
  (L C : PM)
  wv : Value
  Wt : List Ent
def Cfg.blocks (c : Cfg) : List Nat := [c.bLk, c.bGood, c.bG, c.lb, c.mb, c.cb]
structure Good (c : Cfg) (W : World) (B : Nat) : Prop where
  nd : c.blocks.Nodup
  lt : ∀ b ∈ c.blocks, b < B
  ge : ∀ b ∈ c.blocks, W.heap.size ≤ b
  wt : ∀ k, c.wv.ownBlock = some k → k < B ∧ k ∉ c.blocks
  len : c.L.length ≤ 1024
theorem ne_of_nodup {l : List Nat} (h : l.Nodup) {i j : Nat} (hij : i ≠ j) {a b : Nat} (ha : l[i]? = some a) (hb : l[j]? = some b) : a ≠ b := by
  intro e
  subst e
  exact hij ((List.getElem?_inj (List.getElem?_eq_some_iff.1 ha).1 h).1 (ha.trans hb.symm))
theorem zero_ptr (w : World) : (zeroValue 25).run Yba.prog w = .ok (.pointer none) w := by kernel_rfl

structure IC (c : Cfg) (B : Nat) (W : World) (ev : Option Addr) (D : List Ent) (w : World) : Prop where
  lkv : row w c.bLk 32 #[.pointer (some ⟨c.lb, 0, none⟩)]
  good : row w c.bGood 4 #[.bool true]
  map : smap w c.mb (pm c.L)
  chg : smap w c.cb (pm c.C)
  got : ∃ gv, row w c.bG 27 #[gv] ∧ w.ownsRow (B + 3) 31 2 gv D.length (cellsE D)
  want : w.ownsRow W.heap.size 31 2 c.wv c.Wt.length (cellsE c.Wt)
  below : Below W.heap.size W w
  none : ev = none

theorem own_kept {w w' : World} {base e size n : Nat} {v : Value} {xs : List Value} (h : w.ownsRow base e size v n xs) (hb : ∀ k, v.ownBlock = some k → w'.heap[k]? = w.heap[k]?) : w'.ownsRow base e size v n xs := by
  rcases h.2 with ⟨rfl, rfl⟩ | ⟨g, cap, cur, rfl, h1, hg, r⟩
  · exact ⟨h.1, .inl ⟨rfl, rfl⟩⟩
  · exact ⟨h.1, .inr ⟨g, cap, cur, rfl, h1, (hb g rfl).trans hg, r⟩⟩

theorem client (c : Cfg) (W : World) (B : Nat) (g : Good c W B) : Client (IC c B W) B c.lb c.mb c.L c.C (.map (some c.cb)) := by
  have N : ∀ {i a : Nat}, c.blocks[i]? = some a → i ≠ 3 → a ≠ c.lb := fun h1 h3 => ne_of_nodup (j := 3) g.nd h3 h1 rfl
  have hlb : W.heap.size ≤ c.lb := g.ge _ (by simp [Cfg.blocks])
  have hlb2 : c.lb < B := g.lt _ (by simp [Cfg.blocks])
  refine ⟨fun h => h.map, fun {ev D w} h s => ?_, fun {ev D w w'} h st => ?_⟩
  · rw [run_lookup_s Yba.underlying24 Yba.underlying9 (zero_ptr w) h.chg s true, valAt_pm, has_pm]; rfl
  · have R : ∀ {i b t cs}, c.blocks[i]? = some b → i ≠ 3 → row w b t cs → row w' b t cs := fun {i b t cs} h1 h2 hr =>
      (st.block b hr.lt (N h1 h2) (fun h => by have := g.lt b (List.mem_of_getElem? h1); omega)).trans hr
    have S : ∀ {i b M}, c.blocks[i]? = some b → i ≠ 3 → smap w b M → smap w' b M := fun {i b M} h1 h2 hr => by
      unfold smap at *
      rw [st.block b (Array.getElem?_eq_some_iff.1 hr).1 (N h1 h2) (fun h => by have := g.lt b (List.mem_of_getElem? h1); omega)]; exact hr
    obtain ⟨gv, hg1, hg2⟩ := h.got
    have b := h.below
    refine ⟨R (i := 0) rfl (by decide) h.lkv, R (i := 1) rfl (by decide) h.good, S (i := 4) rfl (by decide) h.map, S (i := 5) rfl (by decide) h.chg, ⟨gv, R (i := 2) rfl (by decide) hg1, ?_⟩, ?_, ?_, h.none⟩
    · exact own_kept hg2 (fun k hk => st.block k (hg2.lt k hk).2 (by have := (hg2.lt k hk).1; omega) (by have := (hg2.lt k hk).1; omega))
    · exact own_kept h.want (fun k hk => st.block k (h.want.lt k hk).2 (fun e => (g.wt k hk).2 (by rw [e]; simp [Cfg.blocks])) (by have := (g.wt k hk).1; omega))
    · exact ⟨st.os.trans b.os, st.tape.trans b.tape, st.output.trans b.output, Nat.le_trans b.size st.size, fun k hk => (st.block k (by have := b.size; omega) (by omega) (by omega)).trans (b.block k hk)⟩

def Cfg.caps (c : Cfg) : Array Value := #[.pointer (some ⟨c.bLk, 0, none⟩), .pointer (some ⟨c.bGood, 0, none⟩), .pointer (some ⟨c.bG, 0, none⟩)]

theorem fn_ok (c : Cfg) (W : World) (B : Nat) (g : Good c W B) : FnOk (IC c B W) B c.lb c.L c.C 9 c.caps := by
  intro D bt n w hI hl hk hv hR hD h0 h256 hsz
  obtain ⟨R, hp, hR⟩ := hR
  have hlen := hp.length_eq
  have hle : (effs c.C c.L).length ≤ c.L.length := List.length_filterMap_le _ _
  have hL := g.len
  rw [List.length_append, List.length_append] at hlen
  have hbG : c.bG < B := g.lt _ (by simp [Cfg.blocks])
  have hlb : c.lb < B := g.lt _ (by simp [Cfg.blocks])
  have hWg : W.heap.size ≤ c.bG := g.ge _ (by simp [Cfg.blocks])
  obtain ⟨gv, hg1, hg2⟩ := hI.got
  have N : ∀ {i a : Nat}, c.blocks[i]? = some a → i ≠ 2 → a ≠ c.bG := fun h1 h3 => ne_of_nodup (j := 2) g.nd h3 h1 rfl
  refine (clo9_any B c.lb c.bLk c.bGood c.bG n D bt gv w hl hI.lkv ⟨rfl, rfl, rfl, Nat.le_refl _, fun _ _ _ => rfl, hg1, hg2⟩ hk hv h0 h256 hsz hbG (by omega)).mono ?_
  rintro e w' ⟨rfl, gv', hr⟩
  have b := hI.below
  have R : ∀ {i b t cs}, c.blocks[i]? = some b → i ≠ 2 → row w b t cs → row w' b t cs := fun {i b t cs} h1 h2 h => (hr.block b (by have := g.lt b (List.mem_of_getElem? h1); omega) (N h1 h2)).trans h
  have S : ∀ {i b M}, c.blocks[i]? = some b → i ≠ 2 → smap w b M → smap w' b M := fun {i b M} h1 h2 h => by
    unfold smap at *
    rw [hr.block b (by have := g.lt b (List.mem_of_getElem? h1); omega) (N h1 h2)]; exact h
  refine ⟨.none, rfl, ⟨R (i := 0) rfl (by decide) hI.lkv, R (i := 1) rfl (by decide) hI.good, S (i := 4) rfl (by decide) hI.map, S (i := 5) rfl (by decide) hI.chg, ⟨gv', hr.got, hr.own⟩, ?_, ?_, rfl⟩, hr.block _ (by omega) (N (i := 3) rfl (by decide)), fun k h1 h2 => hr.block k h2 (by omega), hr.size⟩
  · exact own_kept hI.want (fun k hk => hr.block k (by have := (g.wt k hk).1; omega) (fun e => (g.wt k hk).2 (by rw [e]; simp [Cfg.blocks])))
  · exact ⟨hr.os.trans b.os, hr.tape.trans b.tape, hr.output.trans b.output, Nat.le_trans b.size hr.size, fun k hk => (hr.block k (by omega) (by omega)).trans (b.block k hk)⟩
end Go.Proofs.Ybulksmu.ColI
