import Derived.Test.YbulksmuEq
import Derived.Deep.RegionLaw
namespace Go.Proofs.Ybulksmu.Col9
open Go.RowKit Go.Proofs.Ybulksmu.Mem Go.Proofs.Ybulksmu.Lock Go.Proofs.Ybulksmu.Snap Go.Proofs.Ybulksmu.Cont Go.Proofs.Ybulksmu.Cmp

/-- append on a slice of the call's own, as one step of a region that draws. -/
theorem step_append_own {P : Program} {ops : Array Oper} {o : Oper} {a : Act} {w : World} {K : Act → World → Prop} {Q : Exit → Act → World → Prop} {E : Prop}
    (hg : o.guard = none) (s x : Operand) (t : TypeId) (hop : o.op = Op.call { callee := Callee.builtin Builtin.append, args := #[s, x], argTypes := #[t, t] })
    (base : Nat) (e : TypeId) (i : TypeInfo) (z : Value) (size bytes : Nat) (ht : P.underlying t = some (.slice e)) (hi : P.info? e = some i) (hz : i.zero = some z)
    (hsize : i.size = size) (hby : i.bytes = bytes) (hzs : z.cells.size = size) (hsz : 0 < size)
    (v : Value) (n : Nat) (xs : List Value) (hs : a.eval s = v) (hown : w.ownsRow base e size v n xs)
    (ad : Addr) (m c : Nat) (news : List Value) (hx : a.eval x = .slice (some ad) m c) (hl : news.length = m * size) (hnews : ∀ j u, news[j]? = some u → w.cell? (ad.add j) = some u) (h1 : ∀ u ∈ news, u.oneCell' = true)
    (h63 : n + m ≤ maxLen) (hbytes : (n + m) * bytes ≤ 140737488355328) (hbase : base ≤ w.heap.size)
    (h : ∀ v' w', w'.ownsRow base e size v' (n + m) (xs ++ news) → w.grownBy w' v.ownBlock → (v' = .slice none 0 0 ↔ v = .slice none 0 0 ∧ m = 0) → K (a.put o.dst v') w') :
    if Region.wanted o (yielded ops a.tmps) = true then Oper.wp P o a w K Q else E := by
  have hw : Region.wanted o (yielded ops a.tmps) = true := by simp [Region.wanted, hg]
  rw [if_pos hw]
  exact wp_append_own w s x t hop base e i z size bytes ht hi hz hsize hby hzs hsz v n xs hs hown ad m c news hx hl hnews h1 h63 hbytes hbase h

/-- The cells of a list of entries. -/
def cellsE : List Ent → List Value
  | [] => []
  | e :: r => .string e.1 :: .pointer (some e.2) :: cellsE r
theorem cellsE_append (a b : List Ent) : cellsE (a ++ b) = cellsE a ++ cellsE b := by
  induction a with
  | nil => rfl
  | cons x r ih => simp [cellsE, ih]
theorem cellsE_length (a : List Ent) : (cellsE a).length = a.length * 2 := by
  induction a with
  | nil => rfl
  | cons x r ih => simp [cellsE, ih]; omega
theorem cellsE_get (a : List Ent) : ∀ i e, a[i]? = some e → (cellsE a)[i * 2]? = some (.string e.1) ∧ (cellsE a)[i * 2 + 1]? = some (.pointer (some e.2)) := by
  induction a with
  | nil => intro i e h; simp at h
  | cons x r ih =>
    intro i e h
    cases i with
    | zero => simp at h; subst h; exact ⟨rfl, rfl⟩
    | succ i =>
      have := ih i e (by simpa using h)
      rw [show (i + 1) * 2 = i * 2 + 1 + 1 by omega]
      simpa [cellsE] using this

theorem info31 : (Yba.prog.info? 31).map (fun i => (i.zero, i.size, i.bytes)) = some (some (.agg #[.string ByteArray.empty, .pointer none]), 2, 24) := by kernel_rfl

/-- 'got' holds D; nothing below B + 3 has turned but got's variable. -/
structure R9 (B bG : Nat) (w : World) (D : List Ent) (gv : Value) (wr : World) : Prop where
  os : wr.os = w.os
  tape : wr.tape = w.tape
  output : wr.output = w.output
  size : w.heap.size ≤ wr.heap.size
  block : ∀ k, k < B + 3 → k ≠ bG → wr.heap[k]? = w.heap[k]?
  got : row wr bG 27 #[gv]
  own : wr.ownsRow (B + 3) 31 2 gv D.length (cellsE D)

theorem R9.step {B bG : Nat} {w wr X w1 : World} {D : List Ent} {gv v' : Value} {e : Ent} {o : Obj} (h : R9 B bG w D gv wr) (hB : B + 3 ≤ w.heap.size) (hbG : bG < B) (hX : X.heap = (wr.alloc o).heap) (ho : X.os = wr.os) (ht : X.tape = wr.tape) (hu : X.output = wr.output)
    (own : w1.ownsRow (B + 3) 31 2 v' (D.length + 1) (cellsE D ++ [.string e.1, .pointer (some e.2)])) (hg : X.grownBy w1 gv.ownBlock) :
    w1.cell? ⟨bG, 0, none⟩ = some gv ∧ w1.frozen? ⟨bG, 0, none⟩ = false ∧ R9 B bG w (D ++ [e]) v' (w1.setCell ⟨bG, 0, none⟩ v') ∧ R9 B bG w (D ++ [e]) v' (w1.setCell ⟨bG, 0, none⟩ v').drew := by
  have hsz := h.size
  have hlt := h.own.lt
  have hXs : X.heap.size = wr.heap.size + 1 := by rw [hX]; simp
  have hgt : ∀ k, gv.ownBlock = some k → B + 3 ≤ k := fun k hk => (hlt k hk).1
  have hXb : ∀ k, k < wr.heap.size → X.heap[k]? = wr.heap[k]? := fun k hk => by rw [hX]; exact RowKit.Below.heap_alloc wr o k hk
  have hblk : ∀ k, k < B + 3 → w1.heap[k]? = wr.heap[k]? := fun k hk =>
    (hg.block k (by omega) (fun e => by have := hgt k e.symm; omega)).trans (hXb k (by omega))
  have hrow : row w1 bG 27 #[gv] := (hblk bG (by omega)).trans h.got
  have hset := hrow.set 0 v'
  have hgs := grown_set w1 bG 0 v'
  have e1 : cellsE (D ++ [e]) = cellsE D ++ [.string e.1, .pointer (some e.2)] := by rw [cellsE_append]; rfl
  have hown2 : (w1.setCell ⟨bG, 0, none⟩ v').ownsRow (B + 3) 31 2 v' (D ++ [e]).length (cellsE (D ++ [e])) := by
    rw [e1, List.length_append]
    refine own.kept hgs ?_
    by_cases hv : v'.ownBlock = none
    · exact Or.inl hv
    · right
      intro he
      have := (own.lt bG he).1
      omega
  have R : R9 B bG w (D ++ [e]) v' (w1.setCell ⟨bG, 0, none⟩ v') :=
    ⟨hgs.os.trans (hg.os.trans (ho.trans h.os)), hgs.tape.trans (hg.tape.trans (ht.trans h.tape)), hgs.output.trans (hg.output.trans (hu.trans h.output)), by have := hg.size; have := hgs.size; omega,
      fun k hk hne => (hgs.block k (by have := hg.size; omega) (by simp; exact hne)).trans ((hblk k hk).trans (h.block k hk hne)), hset, hown2⟩
  exact ⟨hrow.cell 0, hrow.free 0, R, ⟨R.os, R.tape, R.output, R.size, R.block, R.got, R.own⟩⟩

theorem cell_two (w : World) (s : ByteArray) (a : Addr) : ∀ j u, ([.string s, .pointer (some a)] : List Value)[j]? = some u → (w.alloc (.cells #[.string s, .pointer (some a)] 31)).cell? ((⟨w.heap.size, 0, none⟩ : Addr).add j) = some u := by
  intro j u hj
  rw [Addr.add_lit, (row_new w _ 31).cell]
  match j, hj with
  | 0, hj => simpa using hj
  | 1, hj => simpa using hj
theorem own_shape {w : World} {base e size n : Nat} {v : Value} {xs : List Value} (h : w.ownsRow base e size v n xs) : ∃ ao cap, v = .slice ao n cap := by
  rcases h.2 with ⟨rfl, rfl⟩ | ⟨g, cap, cur, rfl, _⟩
  · exact ⟨none, 0, rfl⟩
  · exact ⟨_, cap, rfl⟩
def ptr (b : Nat) : Value := .pointer (some ⟨b, 0, none⟩)

set_option maxRecDepth 1000000 in
set_option maxHeartbeats 2000000 in
theorem clo9_any (B lb bLk bGood bG n : Nat) (D bt : List Ent) (gv : Value) (w : World) (hl : lk w lb false n n) (hlv : row w bLk 32 #[.pointer (some ⟨lb, 0, none⟩)])
    (hg : R9 B bG w D gv w)
    (hk : w.ownsRow B 9 1 (.slice (some ⟨B, 0, none⟩) bt.length 256) bt.length (bt.map kv)) (hv : w.ownsRow B 25 1 (.slice (some ⟨B + 1, 0, none⟩) bt.length 256) bt.length (bt.map vv))
    (h0 : 0 < bt.length) (h256 : bt.length ≤ 256) (hB : B + 3 ≤ w.heap.size) (hbG : bG < B) (hD : D.length + bt.length ≤ 100000) :
    Calls Yba.prog 9 #[.slice (some ⟨B, 0, none⟩) bt.length 256, .slice (some ⟨B + 1, 0, none⟩) bt.length 256, .pointer (some ⟨bLk, 0, none⟩), .pointer (some ⟨bGood, 0, none⟩), .pointer (some ⟨bG, 0, none⟩)] w fun e w' =>
      e = .returned .nilIface ∧ ∃ gv', R9 B bG w (D ++ bt) gv' w' := by
  obtain ⟨i31, h31, h31z, h31s, h31b⟩ := info_parts info31
  have cLk : w.cell? ⟨bLk, 0, none⟩ = some (.pointer (some ⟨lb, 0, none⟩)) := hlv.cell 0
  have cHeld : w.cell? ⟨lb, 0, none⟩ = some (.bool false) := hl.cell 0
  have hz : ((bt.length : Int) == 0) = false := beq_eq_false_iff_ne.2 (by omega)
  have Hg := hide hg
  have Hk := hide hk
  have Hv := hide hv
  clear hg hk hv hl hlv
  go_enter Yba.func9, Yba.ntmps9
  go_wp2_with fail
  clear cLk cHeld hz
  go_loopw [8, 32] (fun _ i wr => ∃ (j : Nat) (g : Value), j ≤ bt.length ∧ i = .int .i64 j ∧ R9 B bG w (D ++ bt.take j) g wr) (fun _ i _ => bt.length - (intOf i).toNat)
  case atStart => exact ⟨0, gv, Nat.zero_le _, rfl, by simpa using Hg.out⟩
  case round =>
    obtain ⟨j, g, hj, rfl, hr⟩ := hrel
    by_cases hlt : j < bt.length
    · obtain ⟨⟨s, a⟩, hsa⟩ : ∃ e, bt[j]? = some e := ⟨_, List.getElem?_eq_getElem hlt⟩
      have hlti : (j : Int) < (bt.length : Int) := by omega
      have k1 : wr.cell? ⟨B, j, none⟩ = some (.string s) := by
        have h1 := Hk.out.cellAt j (by omega)
        rw [List.getElem?_map, hsa] at h1
        exact (World.cell?_of_block (hr.block B (by omega) (by omega))).trans h1
      have k2 : wr.cell? ⟨B + 1, j, none⟩ = some (.pointer (some a)) := by
        have h1 := Hv.out.cellAt j (by omega)
        rw [List.getElem?_map, hsa] at h1
        exact (World.cell?_of_block (hr.block (B + 1) (by omega) (by omega))).trans h1
      have k3 : wr.cell? ⟨bG, 0, none⟩ = some g := hr.got.cell 0
      have k4 : ∀ o, (wr.alloc o).cell? ⟨bG, 0, none⟩ = some g := fun o => (hr.got.alloc o).cell 0
      have htake : D ++ bt.take (j + 1) = D ++ bt.take j ++ [(s, a)] := by rw [List.take_add_one, hsa, ← List.append_assoc]; rfl
      have Hsz := hide hr.size
      have Hr := hide hr
      have Htake := hide htake
      clear hr htake hsa
      go_wp2_with fail
      go_region_law (refine step_append_own rfl (.tmp 39) (.tmp 49) 27 rfl (B + 3) 31 i31 (.agg #[.string ByteArray.empty, .pointer none]) 2 24 Yba.underlying27 h31 h31z h31s h31b rfl (by decide) g (D ++ bt.take j).length (cellsE (D ++ bt.take j)) rfl (by exact (Hr.out.own.alloc _)) ⟨wr.heap.size, 0, none⟩ 1 1 [.string s, .pointer (some a)] rfl rfl (by exact cell_two wr s a) (by intro u hu; simp at hu; rcases hu with rfl | rfl <;> rfl) (by simp only [List.length_append, List.length_take]; unfold maxLen; omega) (by simp only [List.length_append, List.length_take]; omega) (by have := Hsz.out; simp; omega) ?_; intro v' w1 hown1 hgrow1 _; obtain ⟨ao', cp', rfl⟩ := own_shape hown1; obtain ⟨q1, q2, q3, q4⟩ := Hr.out.step (X := (wr.alloc (.cells #[.string s, .pointer (some a)] 31)).drew) hB hbG rfl rfl rfl rfl (e := (s, a)) hown1 hgrow1)
      all_goals
        have hlen : (D ++ bt.take j).length = D.length + j := by rw [List.length_append, List.length_take]; omega
        rw [hlen, ← Htake.out] at q3
        have Hq := hide q3
        clear q1 q2 q3 q4 hown1 hgrow1 hlen k1 k2 k3 k4 Hr Htake
        go_wp2
        go_roundw
        case rel => exact ⟨j + 1, _, by omega, by go_num, Hq.out⟩
        case measure => simp [intOf]; omega
    · have hje : j = bt.length := by omega
      subst hje
      rw [List.take_length] at hr
      go_wp2
      go_ret
      exact ⟨rfl, g, hr⟩
end Go.Proofs.Ybulksmu.Col9
