import Derived.Test.YbulksmuColP
import Derived.Test.YbulksmuSrt
namespace Go.Proofs.Ybulksmu.ColMain
open Go.RowKit Go.Proofs.Ybulksmu.Mem Go.Proofs.Ybulksmu.Lock Go.Proofs.Ybulksmu.Snap Go.Proofs.Ybulksmu.Cont Go.Proofs.Ybulksmu.Cmp Go.Proofs.Ybulksmu.Col9 Go.Proofs.Ybulksmu.ColI Go.Proofs.Ybulksmu.ColP Go.Proofs.Ybulksmu.Srt

theorem wpList_upd (w : World) {ops : Array Oper} {rest : List Oper} {o : Oper} {a : Act} {Q : Exit → Act → World → Prop} (hg : o.guard = none) (m x v : Operand) (hop : o.op = Op.mapUpdate 24 m x v)
    (W : World) (b : Nat) (S : List ByteArray) (L : PM) (hm : a.eval m = .map (some b)) (h : FM W b S L w) (hb : W.heap.size ≤ b) (s : ByteArray) (p : Option Addr) (hx : a.eval x = .string s) (hv : a.eval v = .pointer p)
    (hK : ∀ w' L', FM W b (S ++ [s]) L' w' → w.grownBy w' (some b) → w'.heap.size = w.heap.size → wpList Yba.prog ops Q rest (a.put o.dst undef) w') :
    wpList Yba.prog ops Q (o :: rest) a w := by
  refine wpList_plain hg fun K' hK' => ?_
  obtain ⟨w', L', hrun, r1, r2, r3⟩ := h.upd hb s p
  unfold Oper.wp
  simp [execOp, hop, hm, hx, hv, hrun, Result.andThen]
  exact hK' _ _ (hK w' L' r1 r2 r3)

/-- A slice of strings that came in. -/
def StrsA (w : World) (ao : Option Addr) (ss : List ByteArray) : Prop :=
  ∀ i s, ss[i]? = some s → ∃ b off, ao = some ⟨b, off, none⟩ ∧ b < w.heap.size ∧ w.cell? ⟨b, off + i, none⟩ = some (.string s)
/-- A slice of int8 that came in. -/
def IntsA (w : World) (ao : Option Addr) (zs : List Int) : Prop :=
  ∀ i z, zs[i]? = some z → ∃ b off, ao = some ⟨b, off, none⟩ ∧ b < w.heap.size ∧ w.cell? ⟨b, off + i, none⟩ = some (.int .i8 z)

set_option maxRecDepth 100000 in
theorem small_one (ka va sa ta : Option Addr) (kn kc vn vc sn sc tn tc : Nat) (w : World) (h : 1024 < kn) :
    Calls Yba.prog 3 #[.slice ka kn kc, .slice va vn vc, .slice sa sn sc, .slice ta tn tc] w fun e w' => e = .returned (.bool true) ∧ Below w.heap.size w w' := by
  have h' : (1024 : Int) < (kn : Int) := by omega
  go_enter Yba.func3, Yba.ntmps3
  go_wp2
  go_ret
  exact ⟨rfl, Below.refl _ _⟩
set_option maxRecDepth 100000 in
theorem small_two (ka va sa ta : Option Addr) (kn kc vn vc sn sc tn tc : Nat) (w : World) (h : kn ≤ 1024) (h2 : 1024 < sn) :
    Calls Yba.prog 3 #[.slice ka kn kc, .slice va vn vc, .slice sa sn sc, .slice ta tn tc] w fun e w' => e = .returned (.bool true) ∧ Below w.heap.size w w' := by
  have h' : (kn : Int) ≤ 1024 := by omega
  have h2' : (1024 : Int) < (sn : Int) := by omega
  go_enter Yba.func3, Yba.ntmps3
  go_wp2
  go_ret
  exact ⟨rfl, Below.refl _ _⟩

theorem fm_made (W w : World) (hb : Below W.heap.size W w) : FM W w.heap.size [] [] (w.alloc (.map #[] 0)) :=
  ⟨smap_made w, by simp, List.nodup_nil, Nat.le_refl _, hb.alloc hb.size _⟩

theorem own_ne_map {w : World} {base e size n b k : Nat} {v : Value} {xs : List Value} {M : List (ByteArray × Value)} (h : w.ownsRow base e size v n xs) (hm : smap w b M) (hk : v.ownBlock = some k) : k ≠ b := by
  rintro rfl
  rcases h.2 with ⟨rfl, rfl⟩ | ⟨g, cap, cur, rfl, _, hg, _⟩
  · cases hk
  · cases hk
    unfold smap at hm
    rw [hg] at hm
    cases hm
theorem appended {w W w3 : World} {cb mb : Nat} {S K : List ByteArray} {C L : PM} {v v' : Value} {Wt : List Ent} {s : ByteArray} {a : Addr} {o : Obj} (hown : w.ownsRow W.heap.size 31 2 v Wt.length (cellsE Wt)) (hf : FM W cb S C w) (hfm : FM W mb K L w)
    (h3 : w3.ownsRow W.heap.size 31 2 v' (Wt.length + 1) (cellsE Wt ++ [.string s, .pointer (some a)])) (hg : (w.alloc o).grownBy w3 v.ownBlock) :
    w3.ownsRow W.heap.size 31 2 v' (Wt ++ [(s, a)]).length (cellsE (Wt ++ [(s, a)])) ∧ FM W cb S C w3 ∧ FM W mb K L w3 :=
  ⟨by rw [List.length_append, cellsE_append]; exact h3, (hf.alloc o).kept hg (fun k hk => ⟨own_ne_map hown hf.map hk, (hown.lt k hk).1⟩), (hfm.alloc o).kept hg (fun k hk => ⟨own_ne_map hown hfm.map hk, (hown.lt k hk).1⟩)⟩

/-- Where the law's variables lie when walkSnapshot is called. -/
def cfg (E mb cb : Nat) (L C : PM) (wv : Value) (Wt : List Ent) : Cfg := { bLk := E + 1, bGood := E + 1 + 1 + 1, bG := E + 1 + 1, lb := E, mb := mb, cb := cb, L := L, C := C, wv := wv, Wt := Wt }
theorem start {W wr : World} {mb cb : Nat} {S K : List ByteArray} {L C : PM} {v : Value} {Wt : List Ent} (hown : wr.ownsRow W.heap.size 31 2 v Wt.length (cellsE Wt)) (hf : FM W cb S C wr) (hfm : FM W mb K L wr) :
    IC (cfg wr.heap.size mb cb L C v Wt) (wr.heap.size + 4) W none [] ((((wr.alloc (.cells #[.bool false, .bool false, .int .i64 0, .int .i64 0] 34)).alloc (.cells #[.pointer (some ⟨wr.heap.size, 0, none⟩)] 32)).alloc (.cells #[.slice none 0 0] 27)).alloc (.cells #[.bool true] 4)) ∧
    lk ((((wr.alloc (.cells #[.bool false, .bool false, .int .i64 0, .int .i64 0] 34)).alloc (.cells #[.pointer (some ⟨wr.heap.size, 0, none⟩)] 32)).alloc (.cells #[.slice none 0 0] 27)).alloc (.cells #[.bool true] 4)) wr.heap.size false 0 0 ∧
    ((((wr.alloc (.cells #[.bool false, .bool false, .int .i64 0, .int .i64 0] 34)).alloc (.cells #[.pointer (some ⟨wr.heap.size, 0, none⟩)] 32)).alloc (.cells #[.slice none 0 0] 27)).alloc (.cells #[.bool true] 4)).heap.size = wr.heap.size + 4 := by
  have r0 := (((row_new wr #[.bool false, .bool false, .int .i64 0, .int .i64 0] 34).alloc (.cells #[.pointer (some ⟨wr.heap.size, 0, none⟩)] 32)).alloc (.cells #[.slice none 0 0] 27)).alloc (.cells #[.bool true] 4)
  have r1 := row_new (wr.alloc (.cells #[.bool false, .bool false, .int .i64 0, .int .i64 0] 34)) #[.pointer (some ⟨wr.heap.size, 0, none⟩)] 32
  simp only [World.size_alloc] at r1
  replace r1 := (r1.alloc (.cells #[.slice none 0 0] 27)).alloc (.cells #[.bool true] 4)
  have r2 := row_new ((wr.alloc (.cells #[.bool false, .bool false, .int .i64 0, .int .i64 0] 34)).alloc (.cells #[.pointer (some ⟨wr.heap.size, 0, none⟩)] 32)) #[.slice none 0 0] 27
  simp only [World.size_alloc] at r2
  replace r2 := r2.alloc (.cells #[.bool true] 4)
  have r3 := row_new (((wr.alloc (.cells #[.bool false, .bool false, .int .i64 0, .int .i64 0] 34)).alloc (.cells #[.pointer (some ⟨wr.heap.size, 0, none⟩)] 32)).alloc (.cells #[.slice none 0 0] 27)) #[.bool true] 4
  simp only [World.size_alloc] at r3
  have F := (((hf.alloc (.cells #[.bool false, .bool false, .int .i64 0, .int .i64 0] 34)).alloc (.cells #[.pointer (some ⟨wr.heap.size, 0, none⟩)] 32)).alloc (.cells #[.slice none 0 0] 27)).alloc (.cells #[.bool true] 4)
  have M := (((hfm.alloc (.cells #[.bool false, .bool false, .int .i64 0, .int .i64 0] 34)).alloc (.cells #[.pointer (some ⟨wr.heap.size, 0, none⟩)] 32)).alloc (.cells #[.slice none 0 0] 27)).alloc (.cells #[.bool true] 4)
  have O := (((hown.alloc (.cells #[.bool false, .bool false, .int .i64 0, .int .i64 0] 34)).alloc (.cells #[.pointer (some ⟨wr.heap.size, 0, none⟩)] 32)).alloc (.cells #[.slice none 0 0] 27)).alloc (.cells #[.bool true] 4)
  exact ⟨⟨r1, r3, M.map, F.map, ⟨.slice none 0 0, r2, World.ownsRow_nil _ _ _ _⟩, O, F.below, rfl⟩, r0, by simp⟩
theorem good_cfg {W wr : World} {mb cb : Nat} {S K : List ByteArray} {L C : PM} {v : Value} {Wt : List Ent} (hown : wr.ownsRow W.heap.size 31 2 v Wt.length (cellsE Wt)) (hf : FM W cb S C wr) (hfm : FM W mb K L wr) (hne : cb ≠ mb) (hcb : W.heap.size ≤ cb) (hmb : W.heap.size ≤ mb) (hK : K.length ≤ 1024) :
    ColI.Good (cfg wr.heap.size mb cb L C v Wt) W (wr.heap.size + 4) := by
  have h1 : cb < wr.heap.size := (Array.getElem?_eq_some_iff.1 hf.map).1
  have h2 : mb < wr.heap.size := (Array.getElem?_eq_some_iff.1 hfm.map).1
  have h3 := hf.below.size
  refine ⟨?_, ?_, ?_, fun k hk => ?_, Nat.le_trans hfm.len hK⟩
  · simp only [cfg, Cfg.blocks, List.nodup_cons, List.mem_cons, List.not_mem_nil, or_false, not_or, List.nodup_nil, and_true, not_false_eq_true]
    omega
  · intro b hb
    simp only [cfg, Cfg.blocks, List.mem_cons, List.not_mem_nil, or_false] at hb
    omega
  · intro b hb
    simp only [cfg, Cfg.blocks, List.mem_cons, List.not_mem_nil, or_false] at hb
    omega
  · have a1 := (hown.lt k hk).2
    have a2 := own_ne_map hown hf.map hk
    have a3 := own_ne_map hown hfm.map hk
    refine ⟨by omega, ?_⟩
    simp only [cfg, Cfg.blocks, List.mem_cons, List.not_mem_nil, or_false]
    omega
theorem enter9 (args : Array Value) (w : World) : (callFunc 9 args).run Yba.prog w = .ok (.enter 9 args) w := by kernel_rfl
/-- walkSnapshot, as the law calls it. -/
theorem snap_call {E mb cb : Nat} {L C : PM} {v : Value} {Wt : List Ent} {w W : World} (g : ColI.Good (cfg E mb cb L C v Wt) w (E + 4)) (hI : IC (cfg E mb cb L C v Wt) (E + 4) w none [] W) (hl : lk W E false 0 0) (hs : W.heap.size = E + 4) :
    Calls Yba.prog 8 #[.iface 32 (.pointer (some ⟨E, 0, none⟩)), .map (some mb), .map (some cb), .func (.func 9) #[] #[.pointer (some ⟨E + 1, 0, none⟩), .pointer (some ⟨E + 1 + 1 + 1, 0, none⟩), .pointer (some ⟨E + 1 + 1, 0, none⟩)]] W fun r w' =>
      r = .returned .nilIface ∧ ∃ D n, IC (cfg E mb cb L C v Wt) (E + 4) w none D w' ∧ lk w' E false n n ∧ D.Perm (effs C L) := by
  have hcl := client _ _ _ g
  have hfn := fn_ok _ _ _ g
  have hlen : L.length ≤ 1024 := g.len
  rw [← hs] at hcl hfn hI
  refine (walk_any (IC (cfg E mb cb L C v Wt) W.heap.size w) E mb L C (.map (some cb)) 9 (cfg E mb cb L C v Wt).caps 0 W hcl hfn (by omega) (by omega) enter9 hI hl).mono ?_
  rintro r w' ⟨ev, D, n, rfl, hI', hl', hp⟩
  obtain rfl := hI'.none
  rw [hs] at hI'
  exact ⟨rfl, D, n, hI', hl', hp rfl⟩

theorem entsV_kept {w w' : World} {v : Value} {D : List Ent} (h : EntsV w v D) (hs : w.heap.size ≤ w'.heap.size) (hb : ∀ k, v.ownBlock = some k → w'.heap[k]? = w.heap[k]?) : EntsV w' v D := by
  obtain ⟨ao, cap, rfl, he⟩ := h
  refine ⟨ao, cap, rfl, fun i e hi => ?_⟩
  obtain ⟨b, off, rfl, h1, h2, h3⟩ := he i e hi
  have hb' := hb b rfl
  exact ⟨b, off, rfl, by omega, (World.cell?_of_block (by exact hb')).trans h2, (World.cell?_of_block (by exact hb')).trans h3⟩
/-- What stands when the wanted entries are sorted. -/
def AfterOne (E : Nat) (w : World) (gv : Value) (D : List Ent) (w4 : World) : Prop :=
  row w4 (E + 1 + 1) 27 #[gv] ∧ w4.ownsRow (E + 4 + 3) 31 2 gv D.length (cellsE D) ∧ Below w.heap.size w w4
theorem second {E mb cb : Nat} {L C : PM} {v gv : Value} {Wt D : List Ent} {w w3 w4 : World} (g : ColI.Good (cfg E mb cb L C v Wt) w (E + 4)) (hr : row w3 (E + 1 + 1) 27 #[gv]) (hw : w3.ownsRow w.heap.size 31 2 v Wt.length (cellsE Wt))
    (hgv : w3.ownsRow (E + 4 + 3) 31 2 gv D.length (cellsE D)) (hb : Below w.heap.size w w3) (hg : w3.grownBy w4 v.ownBlock) : AfterOne E w gv D w4 := by
  refine ⟨(hg.block _ hr.lt (fun e => ?_)).trans hr, own_kept hgv (fun k hk => hg.block k (hgv.lt k hk).2 (fun e => ?_)), hb.grown hg hb.size (fun k hk => (hw.lt k hk).1)⟩
  · exact (g.wt _ e.symm).2 (by simp [cfg, Cfg.blocks])
  · have h1 : k < E + 4 := (g.wt _ e.symm).1
    have h2 := (hgv.lt k hk).1
    omega
theorem last {E mb cb : Nat} {L C : PM} {v gv : Value} {Wt D D1 : List Ent} {w w3 w4 w5 : World} (h : AfterOne E w gv D w4) (he : EntsV w4 v D1) (hw : w3.ownsRow w.heap.size 31 2 v Wt.length (cellsE Wt)) (g : ColI.Good (cfg E mb cb L C v Wt) w (E + 4)) (hg : w4.grownBy w5 gv.ownBlock) :
    row w5 (E + 1 + 1) 27 #[gv] ∧ EntsV w5 v D1 ∧ Below w.heap.size w w5 := by
  obtain ⟨hr, hgv, hb⟩ := h
  have hE : w.heap.size ≤ E := g.ge _ (by simp [cfg, Cfg.blocks])
  refine ⟨(hg.block _ hr.lt (fun e => ?_)).trans hr, ?_, hb.grown hg hb.size (fun k hk => by have := (hgv.lt k hk).1; omega)⟩
  · have := (hgv.lt _ e.symm).1
    omega
  · by_cases hk : ∃ k, v.ownBlock = some k ∧ ¬ k < w4.heap.size
    · obtain ⟨k, hk1, hk2⟩ := hk
      obtain ⟨ao, cap, rfl, he⟩ := he
      refine ⟨ao, cap, rfl, fun i e hi => ?_⟩
      obtain ⟨b, off, rfl, h1, _⟩ := he i e hi
      cases hk1
      exact absurd h1 hk2
    · refine entsV_kept he hg.size (fun k hk1 => hg.block k (Classical.byContradiction fun h => hk ⟨k, hk1, h⟩) (fun e => ?_))
      have h1 : k < E + 4 := (g.wt _ hk1).1
      have h2 := (hgv.lt k e.symm).1
      omega

set_option maxRecDepth 100000 in
set_option maxHeartbeats 4000000 in
theorem main (ka va sa ta : Option Addr) (kc vc sc tc : Nat) (K S : List ByteArray) (V T : List Int) (w : World) (hK : K.length ≤ 1024) (hS : S.length ≤ 1024) (hKc : K.length ≤ kc)
    (aK : StrsA w ka K) (aS : StrsA w sa S) (aV : IntsA w va V) (aT : IntsA w ta T) :
    Calls Yba.prog 3 #[.slice ka K.length kc, .slice va V.length vc, .slice sa S.length sc, .slice ta T.length tc] w fun e w' => e = .returned (.bool true) ∧ Below w.heap.size w w' := by
  have hmm := @run_makeMap Yba.prog
  have hK' : (K.length : Int) ≤ 1024 := by omega
  have hS' : (S.length : Int) ≤ 1024 := by omega
  obtain ⟨i31, h31, h31z, h31s, h31b⟩ := info_parts info31
  go_enter Yba.func3, Yba.ntmps3
  go_wp2_with fail
  go_loopw [41] (fun i wr => ∃ (j : Nat) (L : PM), j ≤ K.length ∧ i = .int .i64 j ∧ FM w w.heap.size (K.take j) L wr) (fun i _ => K.length - (intOf i).toNat)
  case atStart => exact ⟨0, [], Nat.zero_le _, rfl, fm_made w w (Below.refl _ _)⟩
  case round =>
    clear hmm
    obtain ⟨j, L, hj, rfl, hf⟩ := hrel
    by_cases hlt : j < K.length
    · obtain ⟨s, hs⟩ : ∃ s, K[j]? = some s := ⟨_, List.getElem?_eq_getElem hlt⟩
      obtain ⟨b, off, rfl, hbw, hc⟩ := aK j s hs
      have hlti : (j : Int) < (K.length : Int) := by omega
      have c1 : wr.cell? ⟨b, off + j, none⟩ = some (.string s) := (hf.below.cell (by exact hbw)).trans hc
      have Ht := hide (take_at hs)
      have Hf := hide hf
      clear hf hc hs
      have hcase : (¬ (j : Int) < (V.length : Int)) ∨ ∃ z bv ov, (j : Int) < (V.length : Int) ∧ va = some ⟨bv, ov, none⟩ ∧ bv < w.heap.size ∧ w.cell? ⟨bv, ov + j, none⟩ = some (.int .i8 z) ∧ (z < 0 ∨ 0 ≤ z) := by
        by_cases hv : j < V.length
        · obtain ⟨z, hz⟩ : ∃ z, V[j]? = some z := ⟨_, List.getElem?_eq_getElem hv⟩
          obtain ⟨bv, ov, h1, h2, h3⟩ := aV j z hz
          exact Or.inr ⟨z, bv, ov, by omega, h1, h2, h3, by omega⟩
        · exact Or.inl (by omega)
      rcases hcase with hv | ⟨z, bv, ov, hv, rfl, hbv, hcv, hz | hz⟩
      · go_wp2_with (at_mapUpdate; refine wpList_upd _ rfl _ _ _ rfl w w.heap.size (K.take j) L rfl (by first | exact Hf.out | exact Hf.out.alloc _) (Nat.le_refl _) _ _ rfl rfl ?_; intro w2 L2 hf2 hg2 hs2)
        go_roundw
        case rel => exact ⟨j + 1, L2, by omega, by go_num, by rw [Ht.out]; exact hf2⟩
        case measure => simp [intOf]; omega
      · have c2 : wr.cell? ⟨bv, ov + j, none⟩ = some (.int .i8 z) := (Hf.out.below.cell (by exact hbv)).trans hcv
        clear hcv
        go_wp2_with (at_mapUpdate; refine wpList_upd _ rfl _ _ _ rfl w w.heap.size (K.take j) L rfl (by first | exact Hf.out | exact Hf.out.alloc _) (Nat.le_refl _) _ _ rfl rfl ?_; intro w2 L2 hf2 hg2 hs2)
        go_roundw
        case rel => exact ⟨j + 1, L2, by omega, by go_num, by rw [Ht.out]; exact hf2⟩
        case measure => simp [intOf]; omega
      · have c2 : wr.cell? ⟨bv, ov + j, none⟩ = some (.int .i8 z) := (Hf.out.below.cell (by exact hbv)).trans hcv
        clear hcv
        go_wp2_with (at_mapUpdate; refine wpList_upd _ rfl _ _ _ rfl w w.heap.size (K.take j) L rfl (by first | exact Hf.out | exact Hf.out.alloc _) (Nat.le_refl _) _ _ rfl rfl ?_; intro w2 L2 hf2 hg2 hs2)
        go_roundw
        case rel => exact ⟨j + 1, L2, by omega, by go_num, by rw [Ht.out]; exact hf2⟩
        case measure => simp [intOf]; omega
    · have hje : j = K.length := by omega
      subst hje
      rw [List.take_length] at hf
      have hmm := @run_makeMap Yba.prog
      have Hfm := hide hf
      clear hf
      go_wp2_with fail
      clear hmm
      have Hst : Hid (FM w wr.heap.size (S.take 0) [] (wr.alloc (.map #[] 0)) ∧ FM w w.heap.size K L (wr.alloc (.map #[] 0))) := ⟨fm_made w wr Hfm.out.below, Hfm.out.alloc _⟩
      have hne : wr.heap.size ≠ w.heap.size := by
        have h1 := (Array.getElem?_eq_some_iff.1 Hfm.out.map).1
        omega
      have hge : w.heap.size ≤ wr.heap.size := Hfm.out.below.size
      generalize wr.heap.size = cb at hne hge Hst ⊢
      generalize wr.alloc (.map #[] 0) = wq at Hst ⊢
      clear Hfm
      go_loopw [69] (fun i wr => ∃ (j : Nat) (C : PM), j ≤ S.length ∧ i = .int .i64 j ∧ FM w cb (S.take j) C wr ∧ FM w w.heap.size K L wr) (fun i _ => S.length - (intOf i).toNat)
      case atStart => exact ⟨0, [], Nat.zero_le _, rfl, Hst.out.1, Hst.out.2⟩
      case round =>
        clear Hst
        obtain ⟨j, C, hj, rfl, hf, hfm⟩ := hrel
        by_cases hlt : j < S.length
        · obtain ⟨s, hs⟩ : ∃ s, S[j]? = some s := ⟨_, List.getElem?_eq_getElem hlt⟩
          obtain ⟨b, off, rfl, hbw, hc⟩ := aS j s hs
          have hlti : (j : Int) < (S.length : Int) := by omega
          have c1 : wr.cell? ⟨b, off + j, none⟩ = some (.string s) := (hf.below.cell (by exact hbw)).trans hc
          have Ht := hide (take_at hs)
          have Hf := hide hf
          have Hfm := hide hfm
          clear hf hfm hc hs
          have hcase : (¬ (j : Int) < (T.length : Int)) ∨ ∃ z bv ov, (j : Int) < (T.length : Int) ∧ ta = some ⟨bv, ov, none⟩ ∧ bv < w.heap.size ∧ w.cell? ⟨bv, ov + j, none⟩ = some (.int .i8 z) ∧ (z < 0 ∨ 0 ≤ z) := by
            by_cases hv : j < T.length
            · obtain ⟨z, hz⟩ : ∃ z, T[j]? = some z := ⟨_, List.getElem?_eq_getElem hv⟩
              obtain ⟨bv, ov, h1, h2, h3⟩ := aT j z hz
              exact Or.inr ⟨z, bv, ov, by omega, h1, h2, h3, by omega⟩
            · exact Or.inl (by omega)
          rcases hcase with hv | ⟨z, bv, ov, hv, rfl, hbv, hcv, hz | hz⟩
          · go_wp2_with (at_mapUpdate; refine wpList_upd _ rfl _ _ _ rfl w cb (S.take j) C rfl (by first | exact Hf.out | exact Hf.out.alloc _) hge _ _ rfl rfl ?_; intro w2 C2 hf2 hg2 hs2)
            go_roundw
            case rel => exact ⟨j + 1, C2, by omega, by go_num, by rw [Ht.out]; exact hf2, Hfm.out.kept hg2 (fun k hk => by cases hk; exact ⟨hne, hge⟩)⟩
            case measure => simp [intOf]; omega
          · have c2 : wr.cell? ⟨bv, ov + j, none⟩ = some (.int .i8 z) := (Hf.out.below.cell (by exact hbv)).trans hcv
            clear hcv
            go_wp2_with (at_mapUpdate; refine wpList_upd _ rfl _ _ _ rfl w cb (S.take j) C rfl (by first | exact Hf.out | exact Hf.out.alloc _) hge _ _ rfl rfl ?_; intro w2 C2 hf2 hg2 hs2)
            go_roundw
            case rel => exact ⟨j + 1, C2, by omega, by go_num, by rw [Ht.out]; exact hf2, Hfm.out.kept hg2 (fun k hk => by cases hk; exact ⟨hne, hge⟩)⟩
            case measure => simp [intOf]; omega
          · have c2 : wr.cell? ⟨bv, ov + j, none⟩ = some (.int .i8 z) := (Hf.out.below.cell (by exact hbv)).trans hcv
            clear hcv
            go_wp2_with (at_mapUpdate; refine wpList_upd _ rfl _ _ _ rfl w cb (S.take j) C rfl (by first | exact Hf.out | exact Hf.out.alloc _) hge _ _ rfl rfl ?_; intro w2 C2 hf2 hg2 hs2)
            go_roundw
            case rel => exact ⟨j + 1, C2, by omega, by go_num, by rw [Ht.out]; exact hf2, (Hfm.out.alloc _).kept hg2 (fun k hk => by cases hk; exact ⟨hne, hge⟩)⟩
            case measure => simp [intOf]; omega
        · have hje : j = S.length := by omega
          subst hje
          rw [List.take_length] at hf
          have Hf := hide hf
          have Hfm := hide hfm
          clear hf hfm aS aV aT
          go_wp2_with fail
          go_loopw [19, 96] (fun v i wr => ∃ (j : Nat) (Wt : List Ent), j ≤ K.length ∧ i = .int .i64 j ∧ Want K L C j Wt ∧ wr.ownsRow w.heap.size 31 2 v Wt.length (cellsE Wt) ∧ FM w cb S C wr ∧ FM w w.heap.size K L wr) (fun _ i _ => K.length - (intOf i).toNat)
          case atStart => exact ⟨0, [], Nat.zero_le _, rfl, Want.start K L C, World.ownsRow_nil _ _ _ _, Hf.out, Hfm.out⟩
          case round =>
            clear Hf Hfm
            obtain ⟨j, Wt, hj, rfl, hwant, hown, hf, hfm⟩ := hrel
            by_cases hlt : j < K.length
            · obtain ⟨s, hs⟩ : ∃ s, K[j]? = some s := ⟨_, List.getElem?_eq_getElem hlt⟩
              obtain ⟨b, off, rfl, hbw, hc⟩ := aK j s hs
              have hlti : (j : Int) < (K.length : Int) := by omega
              have c1 : wr.cell? ⟨b, off + j, none⟩ = some (.string s) := (hf.below.cell (by exact hbw)).trans hc
              have Hs := hide hs
              have Hown := hide hown
              have Hwant := hide hwant
              have Hf := hide hf
              have Hfm := hide hfm
              clear hf hfm hc hs hown hwant
              have hl1 : (Instr.lookup 24 (.map (some w.heap.size)) (.string s) false).run Yba.prog wr = .ok (.pointer ((lookP s L).getD none)) wr := by
                rw [run_lookup_s Yba.underlying24 Yba.underlying9 (zero_ptr wr) Hfm.out.map s false, valAt_pm]; rfl
              have hl2 : (Instr.lookup 24 (.map (some cb)) (.string s) true).run Yba.prog wr = .ok (.tuple #[.pointer ((lookP s C).getD none), .bool (lookP s C).isSome]) wr := by
                rw [run_lookup_s Yba.underlying24 Yba.underlying9 (zero_ptr wr) Hf.out.map s true, valAt_pm, has_pm]; rfl
              have hstr : Strs wr (some ⟨b, off + (j + 1), none⟩) (K.drop (j + 1)) := by
                intro i t hi
                rw [List.getElem?_drop] at hi
                obtain ⟨b', off', h1, h2, h3⟩ := aK _ t hi
                cases h1
                exact ⟨b, off + (j + 1), rfl, by rw [show off + (j + 1) + i = off + (j + 1 + i) by omega]; exact (Hf.out.below.cell (by exact hbw)).trans h3⟩
              have hstr0 : K.length = j + 1 → Strs wr (some ⟨b, off, none⟩) (K.drop (j + 1)) := by
                intro h i t hi
                rw [← h, List.drop_length] at hi
                simp at hi
              go_wp2_with fail
              case' inl =>
                have hstr1 := hstr0 (by omega)
                have Hh := hide h
                have Hl : Hid (K.length - kc = K.length - (j + 1)) := hide (by rw [h])
                clear h
                simp only [← Hh.out]
              case' inr => have Hl : Hid (K.length - (j + 1) = K.length - (j + 1)) := hide rfl
              all_goals
                refine (contains_any _ _ (K.drop (j + 1)) s _ (by first | exact hstr | exact hstr1) (by rw [List.length_drop]; omega) (by rw [List.length_drop, Hl.out])).mono ?_
                rintro e w' ⟨⟨bb, rfl, hbb⟩, rfl⟩
                clear hstr hstr0 c1 Hl
                cases bb
                · have hlast := Hwant.out.last Hs.out (fun h => by cases hbb.2 h)
                  clear hbb
                  have hcase : (sel L C s = none ∧ ((lookP s C).isSome = true ∧ (lookP s C).getD none = none ∨ (lookP s C).isSome = false ∧ (lookP s L).getD none = none)) ∨ (∃ a, sel L C s = some (s, a) ∧ ((lookP s C).isSome = true ∧ (lookP s C).getD none = some a ∨ (lookP s C).isSome = false ∧ (lookP s L).getD none = some a)) := by
                    unfold sel effP
                    cases lookP s C with
                    | none => cases (lookP s L).getD none <;> simp
                    | some x => cases x <;> simp
                  rcases hcase with ⟨hsel, ⟨h1, h2⟩ | ⟨h1, h2⟩⟩ | ⟨a, hsel, ⟨h1, h2⟩ | ⟨h1, h2⟩⟩
                  · rw [hsel, Option.toList_none, List.append_nil] at hlast
                    have Hlast := hide hlast
                    rw [h1, h2] at hl2
                    clear hlast hsel h1 h2
                    go_wp2
                    go_roundw
                    case rel => exact ⟨j + 1, Wt, by omega, by go_num, Hlast.out, Hown.out, Hf.out, Hfm.out⟩
                    case measure => simp [intOf]; omega
                  · rw [hsel, Option.toList_none, List.append_nil] at hlast
                    have Hlast := hide hlast
                    rw [h2] at hl1
                    rw [h1] at hl2
                    clear hlast hsel h1 h2
                    go_wp2
                    go_roundw
                    case rel => exact ⟨j + 1, Wt, by omega, by go_num, Hlast.out, Hown.out, Hf.out, Hfm.out⟩
                    case measure => simp [intOf]; omega
                  · rw [hsel, Option.toList_some] at hlast
                    have Hlast := hide hlast
                    rw [h1, h2] at hl2
                    clear hlast hsel h1 h2
                    go_wp2_with (at_builtin; refine wpList_append_own _ rfl (.tmp 120) (.tmp 124) 27 rfl w.heap.size 31 i31 (.agg #[.string ByteArray.empty, .pointer none]) 2 24 Yba.underlying27 h31 h31z h31s h31b rfl (by decide) _ Wt.length (cellsE Wt) rfl (by exact Hown.out.alloc _) ⟨w'.heap.size, 0, none⟩ 1 1 [.string s, .pointer (some a)] rfl rfl (by exact cell_two w' s a) (by intro u hu; simp at hu; rcases hu with rfl | rfl <;> rfl) (by have := Hwant.out.keys.2; unfold maxLen; omega) (by have := Hwant.out.keys.2; omega) (by have := Hf.out.below.size; simp; omega) ?_; intro v' w3 hown3 hgrow3 _; have Ha := hide (appended Hown.out Hf.out Hfm.out hown3 hgrow3); clear hown3 hgrow3)
                    go_roundw
                    case rel => exact ⟨j + 1, _, by omega, by go_num, Hlast.out, Ha.out.1, Ha.out.2.1, Ha.out.2.2⟩
                    case measure => simp [intOf]; omega
                  · rw [hsel, Option.toList_some] at hlast
                    have Hlast := hide hlast
                    rw [h2] at hl1
                    rw [h1] at hl2
                    clear hlast hsel h1 h2
                    go_wp2_with (at_builtin; refine wpList_append_own _ rfl (.tmp 120) (.tmp 124) 27 rfl w.heap.size 31 i31 (.agg #[.string ByteArray.empty, .pointer none]) 2 24 Yba.underlying27 h31 h31z h31s h31b rfl (by decide) _ Wt.length (cellsE Wt) rfl (by exact Hown.out.alloc _) ⟨w'.heap.size, 0, none⟩ 1 1 [.string s, .pointer (some a)] rfl rfl (by exact cell_two w' s a) (by intro u hu; simp at hu; rcases hu with rfl | rfl <;> rfl) (by have := Hwant.out.keys.2; unfold maxLen; omega) (by have := Hwant.out.keys.2; omega) (by have := Hf.out.below.size; simp; omega) ?_; intro v' w3 hown3 hgrow3 _; have Ha := hide (appended Hown.out Hf.out Hfm.out hown3 hgrow3); clear hown3 hgrow3)
                    go_roundw
                    case rel => exact ⟨j + 1, _, by omega, by go_num, Hlast.out, Ha.out.1, Ha.out.2.1, Ha.out.2.2⟩
                    case measure => simp [intOf]; omega
                · have hlater := hide (Hwant.out.later Hs.out (hbb.1 rfl))
                  clear hbb hl1 hl2 
                  go_wp2
                  go_roundw
                  case rel => exact ⟨j + 1, Wt, by omega, by go_num, hlater.out, Hown.out, Hf.out, Hfm.out⟩
                  case measure => simp [intOf]; omega
            · have hje : j = K.length := by omega
              subst hje
              have Hown := hide hown
              have Hwant := hide hwant
              have Hf := hide hf
              have Hfm := hide hfm
              have hge2 : cb < wr.heap.size := (Array.getElem?_eq_some_iff.1 hf.map).1
              clear hf hfm hown hwant aK
              go_wp2_with fail
              have hstart := start Hown.out Hf.out Hfm.out
              have hgood := good_cfg Hown.out Hf.out Hfm.out hne hge (Nat.le_refl _) hK
              have Hkeys := hide Hwant.out.keys
              have Hperm := hide (Hwant.out.perm Hfm.out.nd Hfm.out.keys)
              generalize ((((wr.alloc (.cells #[.bool false, .bool false, .int .i64 0, .int .i64 0] 34)).alloc (.cells #[.pointer (some ⟨wr.heap.size, 0, none⟩)] 32)).alloc (.cells #[.slice none 0 0] 27)).alloc (.cells #[.bool true] 4)) = X at hstart ⊢
              obtain ⟨hI, hlk, hsX⟩ := hstart
              refine (snap_call hgood hI hlk hsX).mono ?_
              rintro e w3 ⟨rfl, D, n, hI3, hl3, hp3⟩
              obtain ⟨gv, hgot, hgv⟩ := hI3.got
              have g1 : w3.cell? ⟨wr.heap.size + 1 + 1 + 1, 0, none⟩ = some (.bool true) := hI3.good.cell 0
              have g2 : w3.cell? ⟨wr.heap.size + 1, 0, none⟩ = some (.pointer (some ⟨wr.heap.size, 0, none⟩)) := hI3.lkv.cell 0
              have g3 : w3.cell? ⟨wr.heap.size, 0, none⟩ = some (.bool false) := hl3.cell 0
              have g4 : w3.cell? ⟨wr.heap.size, 1, none⟩ = some (.bool false) := hl3.cell 1
              have g5 : w3.cell? ⟨wr.heap.size, 2, none⟩ = some (.int .i64 n) := hl3.cell 2
              have g6 : w3.cell? ⟨wr.heap.size, 3, none⟩ = some (.int .i64 n) := hl3.cell 3
              have g7 : w3.cell? ⟨wr.heap.size + 1 + 1, 0, none⟩ = some gv := hgot.cell 0
              have Hb3 := hide hI3.below
              have Hw3 := hide hI3.want
              have Hgv := hide hgv
              have Hp3 := hide hp3
              have Hgood := hide hgood
              have Hgot := hide hgot
              clear hI3 hl3 hI hlk hsX hgood Hown Hf Hfm Hwant hgv hp3 hgot
              go_wp2_with fail
              go_quiet (fail)
              clear g1 g2 g3 g4 g5 g6 g7
              go_wp2_with fail
              refine (sort_any w.heap.size u19 Wt (w3.drewN nq) Hw3.out (by have := Hkeys.out.2; omega)).mono ?_
              rintro e w4 ⟨rfl, D1, hp1, hs1, he1, hg1⟩
              have Hs := hide (second Hgood.out (w3 := w3.drewN nq) Hgot.out Hw3.out Hgv.out (below_drewN Hb3.out nq) hg1)
              have H1 := hide (And.intro hp1 (And.intro hs1 he1))
              clear hp1 hs1 he1 hg1 Hgot Hb3 Hgv
              have g7 : w4.cell? ⟨wr.heap.size + 1 + 1, 0, none⟩ = some gv := Hs.out.1.cell 0
              go_wp2_with fail
              refine (sort_any (wr.heap.size + 4 + 3) gv D w4 Hs.out.2.1 (by have := Hkeys.out.2; have := (Hp3.out.trans Hperm.out.symm).length_eq; omega)).mono ?_
              rintro e w5 ⟨rfl, D2, hp2, hs2, he2, hg2⟩
              have hl := last Hs.out H1.out.2.2 Hw3.out Hgood.out hg2
              have heq : D1 = D2 := sorted_eq D1 D2 H1.out.2.1 hs2 (((H1.out.1.symm.trans Hperm.out).trans Hp3.out.symm).trans hp2) (by have := Hkeys.out.1; exact (H1.out.1.map _).nodup_iff.1 this)
              subst heq
              obtain ⟨ao1, c1, hv1, he1⟩ := hl.2.1
              obtain ⟨ao2, c2, hv2, he2⟩ := he2
              obtain ⟨hr5, _, hb5⟩ := hl
              have Hb5 := hide hb5
              have Hlen := hide (And.intro H1.out.1.length_eq (And.intro hp2.length_eq Hkeys.out.2))
              have He1 := hide he1
              have He2 := hide he2
              clear hp2 hs2 he1 he2 hg2 Hs H1 Hgood Hw3 hb5 g7
              subst hv2
              subst hv1
              have g8 : w5.cell? ⟨wr.heap.size + 1 + 1, 0, none⟩ = some (.slice ao2 D1.length c2) := hr5.cell 0
              clear hr5
              go_wp2_with fail
              refine (Eqf.equal_any ao1 ao2 c1 c2 D1 w5 He1.out He2.out (by have := Hlen.out; omega) rfl rfl).mono ?_
              rintro e w6 ⟨rfl, hb6⟩
              clear g8
              go_wp2
              go_ret
              exact ⟨rfl, Hb5.out.trans (hb6.mono Hb5.out.size)⟩
end Go.Proofs.Ybulksmu.ColMain
