import Derived.Test.YbulksmuCol9
import Derived.Shelf.SlSortCmp.WholeK
import Derived.Shelf.SlSortCmp.NoneTotal
namespace Go.Proofs.Ybulksmu.Srt
open Go.Shelf Go.RowKit Go.Sort Go.Proofs.Ybulksmu.Mem Go.Proofs.Ybulksmu.Lock Go.Proofs.Ybulksmu.Snap Go.Proofs.Ybulksmu.Cmp Go.Proofs.Ybulksmu.Eqf Go.Proofs.Ybulksmu.Col9
def sortPair_ren : Go.Shelf.Ren := ⟨fun | 6 => 12 | 15 => 25 | 14 => 24 | 28 => 42 | 29 => 43 | 20 => 34 | 21 => 35 | 22 => 36 | 23 => 37 | 24 => 38 | 25 => 39 | 26 => 40 | 27 => 41 | 46 => 61 | 47 => 62 | 48 => 63 | 49 => 64 | 50 => 65 | 57 => 73 | n => n, fun | 22 => 27 | 24 => 31 | 25 => 41 | 3 => 3 | 39 => 114 | 0 => 0 | 53 => 53 | 55 => 55 | 4 => 4 | 46 => 138 | 45 => 137 | 50 => 142 | 5 => 5 | 9 => 9 | 66 => 161 | 70 => 25 | 76 => 171 | 77 => 172 | n => n, fun | n => n⟩
theorem sortPair : Go.Proofs.SlLaysF0.n6 Yba.prog sortPair_ren := {
  mixed := by kernel_rfl
  f6 := ⟨Yba.f12.name, by decide, Yba.func12.trans (congrArg some (by kernel_rfl))⟩
  f14 := ⟨Yba.f24.name, by decide, Yba.func24.trans (congrArg some (by kernel_rfl))⟩
  f15 := Yba.func25.trans (congrArg some (by kernel_rfl))
  f20 := ⟨Yba.f34.name, by decide, Yba.func34.trans (congrArg some (by kernel_rfl))⟩
  f21 := ⟨Yba.f35.name, by decide, Yba.func35.trans (congrArg some (by kernel_rfl))⟩
  f22 := ⟨Yba.f36.name, by decide, Yba.func36.trans (congrArg some (by kernel_rfl))⟩
  f23 := ⟨Yba.f37.name, by decide, Yba.func37.trans (congrArg some (by kernel_rfl))⟩
  f24 := ⟨Yba.f38.name, by decide, Yba.func38.trans (congrArg some (by kernel_rfl))⟩
  f25 := ⟨Yba.f39.name, by decide, Yba.func39.trans (congrArg some (by kernel_rfl))⟩
  f26 := ⟨Yba.f40.name, by decide, Yba.func40.trans (congrArg some (by kernel_rfl))⟩
  f27 := ⟨Yba.f41.name, by decide, Yba.func41.trans (congrArg some (by kernel_rfl))⟩
  f28 := Yba.func42.trans (congrArg some (by kernel_rfl))
  f29 := Yba.func43.trans (congrArg some (by kernel_rfl))
  f46 := ⟨Yba.f61.name, by decide, Yba.func61.trans (congrArg some (by kernel_rfl))⟩
  f47 := Yba.func62.trans (congrArg some (by kernel_rfl))
  f48 := Yba.func63.trans (congrArg some (by kernel_rfl))
  f49 := ⟨Yba.f64.name, by decide, Yba.func64.trans (congrArg some (by kernel_rfl))⟩
  f50 := ⟨Yba.f65.name, by decide, Yba.func65.trans (congrArg some (by kernel_rfl))⟩
  f57 := ⟨Yba.f73.name, by decide, Yba.func73.trans (congrArg some (by kernel_rfl))⟩
  t0 := Yba.underlying0
  a0 := Yba.isAgg0
  z0 := Yba.sizeOf0
  v0 := Yba.zeroValue0
  t3 := Yba.underlying3
  a3 := Yba.isAgg3
  z3 := Yba.sizeOf3
  v3 := Yba.zeroValue3
  t4 := Yba.underlying4
  a4 := Yba.isAgg4
  z4 := Yba.sizeOf4
  v4 := Yba.zeroValue4
  t5 := Yba.underlying5
  a5 := Yba.isAgg5
  z5 := Yba.sizeOf5
  v5 := Yba.zeroValue5
  t9 := Yba.underlying9
  a9 := Yba.isAgg9
  z9 := Yba.sizeOf9
  v9 := Yba.zeroValue9
  t22 := Yba.underlying27
  a22 := Yba.isAgg27
  z22 := Yba.sizeOf27
  v22 := Yba.zeroValue27
  t25 := Yba.underlying41
  a25 := Yba.isAgg41
  z25 := Yba.sizeOf41
  v25 := Yba.zeroValue41
  t39 := Yba.underlying114
  a39 := Yba.isAgg114
  z39 := Yba.sizeOf114
  v39 := Yba.zeroValue114
  t45 := Yba.underlying137
  a45 := Yba.isAgg137
  z45 := Yba.sizeOf137
  v45 := Yba.zeroValue137
  t46 := Yba.underlying138
  a46 := Yba.isAgg138
  z46 := Yba.sizeOf138
  v46 := Yba.zeroValue138
  t50 := Yba.underlying142
  a50 := Yba.isAgg142
  z50 := Yba.sizeOf142
  v50 := Yba.zeroValue142
  t53 := Yba.underlying53
  a53 := Yba.isAgg53
  z53 := Yba.sizeOf53
  v53 := Yba.zeroValue53
  t55 := Yba.underlying55
  a55 := Yba.isAgg55
  z55 := Yba.sizeOf55
  v55 := Yba.zeroValue55
  t66 := Yba.underlying161
  a66 := Yba.isAgg161
  z66 := Yba.sizeOf161
  v66 := Yba.zeroValue161
  t70 := Yba.underlying25
  a70 := Yba.isAgg25
  z70 := Yba.sizeOf25
  v70 := Yba.zeroValue25
  t76 := Yba.underlying171
  a76 := Yba.isAgg171
  z76 := Yba.sizeOf171
  v76 := Yba.zeroValue171
  t77 := Yba.underlying172
  a77 := Yba.isAgg172
  z77 := Yba.sizeOf172
  v77 := Yba.zeroValue172 }

/-- A slice whose elements are the entries D. -/
def EntsV (w : World) (v : Value) (D : List Ent) : Prop := ∃ ao cap, v = .slice ao D.length cap ∧ Ents w w.heap.size ao D

theorem flat_cells (D : List Ent) (t : Nat) (h : t < D.toArray.size * 2) : (cellsE D)[t]? = some ((flatK encE 2 D.toArray)[t]!) := by
  rw [get_flatK _ _ _ t h]
  have hlt : t / 2 < D.length := by simp at h; omega
  have hg : D[t / 2]? = some D.toArray[t / 2]! := by
    rw [List.getElem?_eq_getElem hlt, getElem!_pos D.toArray (t / 2) (by simpa using hlt)]
    simp
  obtain ⟨c0, c1⟩ := cellsE_get D _ _ hg
  rcases Nat.mod_two_eq_zero_or_one t with hm | hm
  · rw [hm, show t = t / 2 * 2 by omega, c0]
    rw [show t / 2 * 2 / 2 = t / 2 by omega]
    rfl
  · rw [hm, show t = t / 2 * 2 + 1 by omega, c1]
    rw [show (t / 2 * 2 + 1) / 2 = t / 2 by omega]
    rfl

theorem holds_own {w : World} {g : Nat} {D : List Ent} {cur : Array Value} (hg : w.heap[g]? = some (.cells cur 31 (0, 0))) (hx : cur.toList.take (D.length * 2) = cellsE D) : HoldsK encE 2 w g 0 D.toArray := by
  intro t ht
  rw [size_flatK] at ht
  have h1 := flat_cells D t ht
  rw [← hx, List.getElem?_take, if_pos (by simpa using ht)] at h1
  have hr : row w g 31 cur := hg
  rw [Nat.zero_add]
  exact ⟨by rw [hr.cell]; simpa using h1, hr.free t⟩

theorem sorted_list {d : Array Ent} {n : Nat} (hn : d.size = n) (h : SortedIn (ltOf cf) 0 n d) : d.toList.Pairwise (fun x y => ltE y x = false) := by
  rw [List.pairwise_iff_getElem]
  intro i j hi hj hij
  have hi' : i < d.size := by simpa using hi
  have hj' : j < d.size := by simpa using hj
  have := h i j (Nat.zero_le _) hij (by omega)
  rw [getElem!_pos d j hj', getElem!_pos d i hi'] at this
  show ltOf cf _ _ = false
  simpa using this
theorem perm_list {d d' : Array Ent} (h : PermIn 0 d.size d d') : d.toList.Perm d'.toList := by
  obtain ⟨h1, _, h3⟩ := h
  have e1 : d'.extract 0 d.size = d' := by rw [← h1]; simp
  have e2 : d.extract 0 d.size = d := by simp
  rw [e1, e2] at h3
  exact h3.symm

theorem ents_holds {w : World} {g : Nat} {d : Array Ent} (hg : g < w.heap.size) (h : HoldsK encE 2 w g 0 d) : Ents w w.heap.size (some ⟨g, 0, none⟩) d.toList := by
  intro i e he
  have hi : i < d.size := by have := (List.getElem?_eq_some_iff.1 he).1; simpa using this
  have hd : d[i]! = e := by
    rw [getElem!_pos d i hi]
    have := (List.getElem?_eq_some_iff.1 he).2
    simpa using this
  refine ⟨g, 0, rfl, hg, ?_, ?_⟩
  · have := (h.cell hi (c := 0) (by omega)).1
    rw [hd] at this
    exact this
  · have := (h.cell hi (c := 1) (by omega)).1
    rw [hd] at this
    exact this

theorem grown_sort (w : World) (g n : Nat) (d : Array Ent) (os : Array Obj) : w.grownBy (sortWorldK encE 2 w g 0 n d os) (some g) := by
  refine ⟨rfl, rfl, rfl, ?_, fun k hk hne => ?_⟩
  · unfold sortWorldK putRowK putRow mapBlock
    simp
  · unfold sortWorldK
    rw [heap_grow_old _ _ (by unfold putRowK putRow mapBlock; simpa [ahead] using hk)]
    unfold putRowK putRow mapBlock
    rw [Array.getElem?_modify, if_neg (fun e => hne (by rw [e]))]
    rfl

theorem enter10 (args : Array Value) (w : World) : (callFunc 10 args).run Yba.prog w = .ok (.enter 10 args) w := by kernel_rfl
theorem agg31 (w : World) : (isAgg 31).run Yba.prog w = .ok true w := by kernel_rfl
theorem size31 (w : World) : (Go.sizeOf 31).run Yba.prog w = .ok 2 w := by kernel_rfl

theorem sort_any (base : Nat) (v : Value) (D : List Ent) (w : World) (h : w.ownsRow base 31 2 v D.length (cellsE D)) (hD : D.length ≤ 100000) :
    Calls Yba.prog 12 #[v, .func (.func 10) #[] #[]] w fun e w' => e = .returned (.tuple #[]) ∧ ∃ D', D.Perm D' ∧ D'.Pairwise (fun x y => ltE y x = false) ∧ EntsV w' v D' ∧ w.grownBy w' v.ownBlock := by
  rcases h.2 with ⟨rfl, h0⟩ | ⟨g, cap, cur, rfl, _, hg, _, _, _, hx⟩
  · have hc := AnyF.slices_SortFunc_none sortPair none 0 (.func (.func 10) #[] #[]) w
    change Calls Yba.prog 12 _ _ _ at hc
    refine hc.mono ?_
    rintro e w' ⟨rfl, rfl⟩
    obtain rfl := List.length_eq_zero_iff.1 h0
    exact ⟨rfl, [], List.Perm.refl _, List.Pairwise.nil, ⟨none, 0, rfl, fun i e he => by simp at he⟩, ⟨rfl, rfl, rfl, Nat.le_refl _, fun _ _ _ => rfl⟩⟩
  · have hgl : g < w.heap.size := (Array.getElem?_eq_some_iff.1 hg).1
    have hH := holds_own hg hx
    have hcmp : CmpLays Yba.prog 10 #[] encE 2 cf g 0 D.toArray.size w := fun _ _ _ _ x y => cmp_any x y _
    have hc := AnyQ.slices_SortFunc sortPair 2 agg31 size31 encE (fun _ => rfl) (fun x u hu => by simp [encE] at hu; rcases hu with rfl | rfl <;> rfl) cf ltE_swo 10 #[] g 0 cap D.toArray w enter10 hcmp hH hgl (by simp; omega)
    change Calls Yba.prog 12 #[.slice (some ⟨g, 0, none⟩) D.toArray.size cap, .func (.func 10) #[] #[]] w _ at hc
    rw [List.size_toArray] at hc
    refine hc.mono ?_
    rintro e w' ⟨rfl, d', n, os, hp, hs, rfl⟩
    have hsz : d'.size = D.length := by have := hp.1; simpa using this
    have hgr := grown_sort w g n d' os
    have hper := perm_list (d := D.toArray) (d' := d') (by simpa using hp)
    refine ⟨rfl, d'.toList, hper, sorted_list hsz hs, ⟨some ⟨g, 0, none⟩, cap, by rw [show d'.toList.length = D.length from hsz], ?_⟩, hgr⟩
    refine ents_holds (by have := hgr.size; omega) ?_
    unfold sortWorldK
    exact holdsK_grow _ _ _ _ _ _ _ (by unfold putRowK putRow mapBlock; simpa [ahead] using hgl) (holdsK_putRowK _ _ _ _ _ _ _ (holdsK_ahead _ _ _ _ _ _ _ hH) (by simpa using hsz))
end Go.Proofs.Ybulksmu.Srt
