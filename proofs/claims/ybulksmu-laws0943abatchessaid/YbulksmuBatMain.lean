import Derived.Test.YbulksmuBat
import Derived.Deep.RegionWith
namespace Go.Proofs.Ybulksmu.BatMain
open Go.RowKit Go.Proofs.Ybulksmu.Mem Go.Proofs.Ybulksmu.Lock Go.Proofs.Ybulksmu.Snap Go.Proofs.Ybulksmu.Bat

/-- The map under way: the first i keys lie in it, each with a pointer. -/
structure Fill (C0 count : Nat) (W : World) (i : Nat) (L : PM) (w : World) : Prop where
  keys : L.map (·.1) = (List.range i).map keyB
  full : ∀ q ∈ L, ∃ a, q.2 = some a
  map : smap w (C0 + 1) (pm L)
  cnt : row w C0 3 #[.int .i64 count]
  mv : row w (C0 + 1 + 1) 24 #[.map (some (C0 + 1))]
  below : Below C0 W w
  sz : C0 + 3 ≤ w.heap.size

theorem keys_fresh {i : Nat} (hi : i < 700) {L : PM} (h : L.map (·.1) = (List.range i).map keyB) : findI (keyB i) (pm L) 0 = none := by
  rw [findI_none]
  intro p hp e
  obtain ⟨q, hq, rfl⟩ := List.mem_map.1 hp
  have : keyB i ∈ L.map (·.1) := List.mem_map.2 ⟨q, hq, e⟩
  rw [h] at this
  obtain ⟨j, hj, hjk⟩ := List.mem_map.1 this
  have hj' := List.mem_range.1 hj
  have := keyB_inj (by omega) (by omega) hjk
  omega

/-- One key more. -/
theorem Fill.step {C0 count i : Nat} {W w w1 w2 : World} {L : PM} {a : Addr} (h : Fill C0 count W i L w) (hb : Below w.heap.size w w1) (hs : smap w2 (C0 + 1) (pm L ++ [(keyB i, .pointer (some a))])) (hg : w1.grownBy w2 (some (C0 + 1))) :
    Fill C0 count W (i + 1) (L ++ [(keyB i, some a)]) w2 := by
  have hsz := h.sz
  have R : ∀ {b t cs}, row w b t cs → b ≠ C0 + 1 → row w2 b t cs := fun {b t cs} hr hne => by
    have h1 : row w1 b t cs := (hb.block b hr.lt).trans hr
    exact h1.kept hg (by simp; exact hne)
  refine ⟨?_, ?_, ?_, R h.cnt (by omega), R h.mv (by omega), ?_, ?_⟩
  · rw [List.map_append, h.keys, List.range_succ, List.map_append]; rfl
  · intro q hq
    rcases List.mem_append.1 hq with hq | hq
    · exact h.full q hq
    · simp at hq; subst hq; exact ⟨a, rfl⟩
  · have : pm (L ++ [(keyB i, some a)]) = pm L ++ [(keyB i, .pointer (some a))] := by simp [pm]
    rw [this]; exact hs
  · have hb' : Below C0 W w1 := h.below.trans (hb.mono (by omega))
    have := hb.size
    exact hb'.grown hg (by omega) (fun k hk => by cases hk; omega)
  · have := hb.size; have := hg.size; omega

theorem Fill.alloc {C0 count i : Nat} {W w : World} {L : PM} (h : Fill C0 count W i L w) (o : Obj) : Fill C0 count W i L (w.alloc o) :=
  ⟨h.keys, h.full, smap_kept h.map (World.grownBy_alloc _ _ none) (by simp), h.cnt.alloc o, h.mv.alloc o, h.below.alloc (by have := h.sz; omega) o, by have := h.sz; simp; omega⟩
theorem new_any (s : ByteArray) (w : World) : Calls Yba.prog 16 #[.string s] w fun e w' => e = .returned (.iface 115 (.pointer (some ⟨w.heap.size, 0, none⟩))) ∧ w' = w.alloc (.cells #[.string s] 117) := by
  go_enter Yba.func16, Yba.ntmps16
  go_wp2
  go_ret
  exact ⟨rfl, rfl⟩
theorem Fill.drew {C0 count i : Nat} {W w : World} {L : PM} (h : Fill C0 count W i L w) : Fill C0 count W i L w.drew := ⟨h.keys, h.full, h.map, h.cnt, h.mv, h.below.drew, h.sz⟩
theorem fill_upd {C0 count i : Nat} {W w w1 : World} {L : PM} (h : Fill C0 count W i L w) (hi : i < 700) (hb : Below w.heap.size w w1) (a : Addr) :
    ∃ w2, (Instr.mapUpdate 24 (.map (some (C0 + 1))) (.string (keyB i)) (.pointer (some a))).run Yba.prog w1 = .ok () w2 ∧ w1.cell? ⟨C0 + 1 + 1, 0, none⟩ = some (.map (some (C0 + 1))) ∧ Fill C0 count W (i + 1) (L ++ [(keyB i, some a)]) w2 := by
  have hm1 : smap w1 (C0 + 1) (pm L) := (hb.block _ (Array.getElem?_eq_some_iff.1 h.map).1).trans h.map
  obtain ⟨w2, hrun, hs, hg, _⟩ := run_update_new Yba.underlying24 Yba.underlying9 hm1 (keys_fresh hi h.keys) (.pointer (some a))
  have hmv : row w1 (C0 + 1 + 1) 24 #[.map (some (C0 + 1))] := (hb.block _ h.mv.lt).trans h.mv
  exact ⟨w2, hrun, hmv.cell 0, h.step hb hs hg⟩

/-- Where the law's variables lie when walkSnapshot is called. -/
def cfg (C0 E : Nat) (cnt cl sa : Nat) (L : PM) : Cfg := { bLk := E + 1 + 1 + 1 + 1 + 1, bGood := E + 1 + 1 + 1 + 1 + 1 + 1 + 1 + 1 + 1, bK := E + 1 + 1 + 1 + 1 + 1 + 1 + 1 + 1, bCalls := E, bCount := C0, bM := C0 + 1 + 1, bSeen := E + 1 + 1 + 1 + 1 + 1 + 1 + 1, bStop := E + 1, bSent := E + 1 + 1 + 1, lb := E + 1 + 1 + 1 + 1, mb := C0 + 1, sb := E + 1 + 1 + 1 + 1 + 1 + 1, ea := ⟨E + 1 + 1, 0, none⟩, count := cnt, calls := cl, stopAt := sa, L := L }

theorem start {cnt cl sa : Nat} {W wr : World} {L : PM} (hf : Fill W.heap.size cnt W cnt L wr) :
    IB (cfg W.heap.size wr.heap.size cnt cl sa L) W none [] ((((((((((wr.alloc (.cells #[.int .i64 (cl : Int)] 3)).alloc (.cells #[.int .i64 (sa : Int)] 3)).alloc (.cells #[.string { data := #[122, 122, 32, 115, 116, 111, 112] }] 117)).alloc (.cells #[.iface 115 (.pointer (some ⟨wr.heap.size + 1 + 1, 0, none⟩))] 36)).alloc (.cells #[.bool false, .bool false, .int .i64 0, .int .i64 0] 34)).alloc (.cells #[.pointer (some ⟨wr.heap.size + 1 + 1 + 1 + 1, 0, none⟩)] 32)).alloc (.map #[] 0)).alloc (.cells #[.map (some (wr.heap.size + 1 + 1 + 1 + 1 + 1 + 1))] 49)).alloc (.cells #[.int .i64 0] 3)).alloc (.cells #[.bool true] 4)) ∧ lk ((((((((((wr.alloc (.cells #[.int .i64 (cl : Int)] 3)).alloc (.cells #[.int .i64 (sa : Int)] 3)).alloc (.cells #[.string { data := #[122, 122, 32, 115, 116, 111, 112] }] 117)).alloc (.cells #[.iface 115 (.pointer (some ⟨wr.heap.size + 1 + 1, 0, none⟩))] 36)).alloc (.cells #[.bool false, .bool false, .int .i64 0, .int .i64 0] 34)).alloc (.cells #[.pointer (some ⟨wr.heap.size + 1 + 1 + 1 + 1, 0, none⟩)] 32)).alloc (.map #[] 0)).alloc (.cells #[.map (some (wr.heap.size + 1 + 1 + 1 + 1 + 1 + 1))] 49)).alloc (.cells #[.int .i64 0] 3)).alloc (.cells #[.bool true] 4)) (wr.heap.size + 1 + 1 + 1 + 1) false 0 0 ∧ ((((((((((wr.alloc (.cells #[.int .i64 (cl : Int)] 3)).alloc (.cells #[.int .i64 (sa : Int)] 3)).alloc (.cells #[.string { data := #[122, 122, 32, 115, 116, 111, 112] }] 117)).alloc (.cells #[.iface 115 (.pointer (some ⟨wr.heap.size + 1 + 1, 0, none⟩))] 36)).alloc (.cells #[.bool false, .bool false, .int .i64 0, .int .i64 0] 34)).alloc (.cells #[.pointer (some ⟨wr.heap.size + 1 + 1 + 1 + 1, 0, none⟩)] 32)).alloc (.map #[] 0)).alloc (.cells #[.map (some (wr.heap.size + 1 + 1 + 1 + 1 + 1 + 1))] 49)).alloc (.cells #[.int .i64 0] 3)).alloc (.cells #[.bool true] 4)).heap.size = wr.heap.size + 10 := by
  have r0 := row_new wr #[.int .i64 (cl : Int)] 3
  replace r0 := (((((((((r0.alloc (.cells #[.int .i64 (sa : Int)] 3)).alloc (.cells #[.string { data := #[122, 122, 32, 115, 116, 111, 112] }] 117)).alloc (.cells #[.iface 115 (.pointer (some ⟨wr.heap.size + 1 + 1, 0, none⟩))] 36)).alloc (.cells #[.bool false, .bool false, .int .i64 0, .int .i64 0] 34)).alloc (.cells #[.pointer (some ⟨wr.heap.size + 1 + 1 + 1 + 1, 0, none⟩)] 32)).alloc (.map #[] 0)).alloc (.cells #[.map (some (wr.heap.size + 1 + 1 + 1 + 1 + 1 + 1))] 49)).alloc (.cells #[.int .i64 0] 3)).alloc (.cells #[.bool true] 4))
  have r1 := row_new (wr.alloc (.cells #[.int .i64 (cl : Int)] 3)) #[.int .i64 (sa : Int)] 3
  simp only [World.size_alloc] at r1
  replace r1 := ((((((((r1.alloc (.cells #[.string { data := #[122, 122, 32, 115, 116, 111, 112] }] 117)).alloc (.cells #[.iface 115 (.pointer (some ⟨wr.heap.size + 1 + 1, 0, none⟩))] 36)).alloc (.cells #[.bool false, .bool false, .int .i64 0, .int .i64 0] 34)).alloc (.cells #[.pointer (some ⟨wr.heap.size + 1 + 1 + 1 + 1, 0, none⟩)] 32)).alloc (.map #[] 0)).alloc (.cells #[.map (some (wr.heap.size + 1 + 1 + 1 + 1 + 1 + 1))] 49)).alloc (.cells #[.int .i64 0] 3)).alloc (.cells #[.bool true] 4))
  have r2 := row_new ((wr.alloc (.cells #[.int .i64 (cl : Int)] 3)).alloc (.cells #[.int .i64 (sa : Int)] 3)) #[.string { data := #[122, 122, 32, 115, 116, 111, 112] }] 117
  simp only [World.size_alloc] at r2
  replace r2 := (((((((r2.alloc (.cells #[.iface 115 (.pointer (some ⟨wr.heap.size + 1 + 1, 0, none⟩))] 36)).alloc (.cells #[.bool false, .bool false, .int .i64 0, .int .i64 0] 34)).alloc (.cells #[.pointer (some ⟨wr.heap.size + 1 + 1 + 1 + 1, 0, none⟩)] 32)).alloc (.map #[] 0)).alloc (.cells #[.map (some (wr.heap.size + 1 + 1 + 1 + 1 + 1 + 1))] 49)).alloc (.cells #[.int .i64 0] 3)).alloc (.cells #[.bool true] 4))
  have r3 := row_new (((wr.alloc (.cells #[.int .i64 (cl : Int)] 3)).alloc (.cells #[.int .i64 (sa : Int)] 3)).alloc (.cells #[.string { data := #[122, 122, 32, 115, 116, 111, 112] }] 117)) #[.iface 115 (.pointer (some ⟨wr.heap.size + 1 + 1, 0, none⟩))] 36
  simp only [World.size_alloc] at r3
  replace r3 := ((((((r3.alloc (.cells #[.bool false, .bool false, .int .i64 0, .int .i64 0] 34)).alloc (.cells #[.pointer (some ⟨wr.heap.size + 1 + 1 + 1 + 1, 0, none⟩)] 32)).alloc (.map #[] 0)).alloc (.cells #[.map (some (wr.heap.size + 1 + 1 + 1 + 1 + 1 + 1))] 49)).alloc (.cells #[.int .i64 0] 3)).alloc (.cells #[.bool true] 4))
  have r4 := row_new ((((wr.alloc (.cells #[.int .i64 (cl : Int)] 3)).alloc (.cells #[.int .i64 (sa : Int)] 3)).alloc (.cells #[.string { data := #[122, 122, 32, 115, 116, 111, 112] }] 117)).alloc (.cells #[.iface 115 (.pointer (some ⟨wr.heap.size + 1 + 1, 0, none⟩))] 36)) #[.bool false, .bool false, .int .i64 0, .int .i64 0] 34
  simp only [World.size_alloc] at r4
  replace r4 := (((((r4.alloc (.cells #[.pointer (some ⟨wr.heap.size + 1 + 1 + 1 + 1, 0, none⟩)] 32)).alloc (.map #[] 0)).alloc (.cells #[.map (some (wr.heap.size + 1 + 1 + 1 + 1 + 1 + 1))] 49)).alloc (.cells #[.int .i64 0] 3)).alloc (.cells #[.bool true] 4))
  have r5 := row_new (((((wr.alloc (.cells #[.int .i64 (cl : Int)] 3)).alloc (.cells #[.int .i64 (sa : Int)] 3)).alloc (.cells #[.string { data := #[122, 122, 32, 115, 116, 111, 112] }] 117)).alloc (.cells #[.iface 115 (.pointer (some ⟨wr.heap.size + 1 + 1, 0, none⟩))] 36)).alloc (.cells #[.bool false, .bool false, .int .i64 0, .int .i64 0] 34)) #[.pointer (some ⟨wr.heap.size + 1 + 1 + 1 + 1, 0, none⟩)] 32
  simp only [World.size_alloc] at r5
  replace r5 := ((((r5.alloc (.map #[] 0)).alloc (.cells #[.map (some (wr.heap.size + 1 + 1 + 1 + 1 + 1 + 1))] 49)).alloc (.cells #[.int .i64 0] 3)).alloc (.cells #[.bool true] 4))
  have r6 := smap_made ((((((wr.alloc (.cells #[.int .i64 (cl : Int)] 3)).alloc (.cells #[.int .i64 (sa : Int)] 3)).alloc (.cells #[.string { data := #[122, 122, 32, 115, 116, 111, 112] }] 117)).alloc (.cells #[.iface 115 (.pointer (some ⟨wr.heap.size + 1 + 1, 0, none⟩))] 36)).alloc (.cells #[.bool false, .bool false, .int .i64 0, .int .i64 0] 34)).alloc (.cells #[.pointer (some ⟨wr.heap.size + 1 + 1 + 1 + 1, 0, none⟩)] 32))
  simp only [World.size_alloc] at r6
  replace r6 := smap_kept (smap_kept (smap_kept r6 (World.grownBy_alloc _ (.cells #[.map (some (wr.heap.size + 1 + 1 + 1 + 1 + 1 + 1))] 49) none) (by simp)) (World.grownBy_alloc _ (.cells #[.int .i64 0] 3) none) (by simp)) (World.grownBy_alloc _ (.cells #[.bool true] 4) none) (by simp)
  have r7 := row_new (((((((wr.alloc (.cells #[.int .i64 (cl : Int)] 3)).alloc (.cells #[.int .i64 (sa : Int)] 3)).alloc (.cells #[.string { data := #[122, 122, 32, 115, 116, 111, 112] }] 117)).alloc (.cells #[.iface 115 (.pointer (some ⟨wr.heap.size + 1 + 1, 0, none⟩))] 36)).alloc (.cells #[.bool false, .bool false, .int .i64 0, .int .i64 0] 34)).alloc (.cells #[.pointer (some ⟨wr.heap.size + 1 + 1 + 1 + 1, 0, none⟩)] 32)).alloc (.map #[] 0)) #[.map (some (wr.heap.size + 1 + 1 + 1 + 1 + 1 + 1))] 49
  simp only [World.size_alloc] at r7
  replace r7 := ((r7.alloc (.cells #[.int .i64 0] 3)).alloc (.cells #[.bool true] 4))
  have r8 := row_new ((((((((wr.alloc (.cells #[.int .i64 (cl : Int)] 3)).alloc (.cells #[.int .i64 (sa : Int)] 3)).alloc (.cells #[.string { data := #[122, 122, 32, 115, 116, 111, 112] }] 117)).alloc (.cells #[.iface 115 (.pointer (some ⟨wr.heap.size + 1 + 1, 0, none⟩))] 36)).alloc (.cells #[.bool false, .bool false, .int .i64 0, .int .i64 0] 34)).alloc (.cells #[.pointer (some ⟨wr.heap.size + 1 + 1 + 1 + 1, 0, none⟩)] 32)).alloc (.map #[] 0)).alloc (.cells #[.map (some (wr.heap.size + 1 + 1 + 1 + 1 + 1 + 1))] 49)) #[.int .i64 0] 3
  simp only [World.size_alloc] at r8
  replace r8 := (r8.alloc (.cells #[.bool true] 4))
  have r9 := row_new (((((((((wr.alloc (.cells #[.int .i64 (cl : Int)] 3)).alloc (.cells #[.int .i64 (sa : Int)] 3)).alloc (.cells #[.string { data := #[122, 122, 32, 115, 116, 111, 112] }] 117)).alloc (.cells #[.iface 115 (.pointer (some ⟨wr.heap.size + 1 + 1, 0, none⟩))] 36)).alloc (.cells #[.bool false, .bool false, .int .i64 0, .int .i64 0] 34)).alloc (.cells #[.pointer (some ⟨wr.heap.size + 1 + 1 + 1 + 1, 0, none⟩)] 32)).alloc (.map #[] 0)).alloc (.cells #[.map (some (wr.heap.size + 1 + 1 + 1 + 1 + 1 + 1))] 49)).alloc (.cells #[.int .i64 0] 3)) #[.bool true] 4
  simp only [World.size_alloc] at r9
  have F := ((((((((((hf.alloc (.cells #[.int .i64 (cl : Int)] 3)).alloc (.cells #[.int .i64 (sa : Int)] 3)).alloc (.cells #[.string { data := #[122, 122, 32, 115, 116, 111, 112] }] 117)).alloc (.cells #[.iface 115 (.pointer (some ⟨wr.heap.size + 1 + 1, 0, none⟩))] 36)).alloc (.cells #[.bool false, .bool false, .int .i64 0, .int .i64 0] 34)).alloc (.cells #[.pointer (some ⟨wr.heap.size + 1 + 1 + 1 + 1, 0, none⟩)] 32)).alloc (.map #[] 0)).alloc (.cells #[.map (some (wr.heap.size + 1 + 1 + 1 + 1 + 1 + 1))] 49)).alloc (.cells #[.int .i64 0] 3)).alloc (.cells #[.bool true] 4))
  refine ⟨⟨⟨r5, r9, r8, r0, F.cnt, F.mv, F.map, r7, r6, r1, r3⟩, Nat.zero_le _, F.below, fun _ => Nat.zero_le _, fun a h => by cases h⟩, r4, by simp⟩

theorem good_cfg {C0 E cnt cl sa : Nat} {L : PM} (hE : C0 + 3 ≤ E) (hk : L.map (·.1) = (List.range cnt).map keyB) (hf : ∀ q ∈ L, ∃ a, q.2 = some a) (hc : cnt < 700) (hcl : cl = (cnt + 255) / 256) (hsa : sa ≤ cl) : Bat.Good (cfg C0 E cnt cl sa L) := by
  refine ⟨?_, ?_, hf, ?_, hc, hcl, hsa⟩
  · simp only [cfg, Cfg.blocks, List.nodup_cons, List.mem_cons, List.not_mem_nil, or_false, not_or, List.nodup_nil, and_true, not_false_eq_true]
    omega
  · show (L.map (·.1)).Nodup
    rw [hk]
    refine List.pairwise_map.2 (List.Pairwise.imp_of_mem ?_ List.nodup_range)
    intro a b ha hb hne h
    have ha' := List.mem_range.1 ha
    have hb' := List.mem_range.1 hb
    exact hne (keyB_inj (by omega) (by omega) h)
  · have := congrArg List.length hk
    simpa [cfg] using this
theorem info117 : (Yba.prog.info? 117).isSome = true := by kernel_rfl
theorem info115 : (Yba.prog.info? 115).map (fun i => i.comparable) = some true := by kernel_rfl
theorem eql_err (a : Addr) (w : World) : (binOp .eql 36 (.iface 115 (.pointer (some a))) (.iface 115 (.pointer (some a)))).run Yba.prog w = .ok (.bool true) w := by
  obtain ⟨i, hi, hc⟩ := Option.map_eq_some_iff.1 info115
  obtain ⟨j, hj⟩ := Option.isSome_iff_exists.1 info117
  exact run_eql_iface_ptr_same w a Yba.underlying36 Yba.underlying115 hi hc hj
attribute [local go_sem] eql_err
theorem enter17 (args : Array Value) (w : World) : (callFunc 17 args).run Yba.prog w = .ok (.enter 17 args) w := by
  kernel_rfl
/-- walkSnapshot, as the law calls it. -/
theorem snap_call {C0 E cnt cl sa : Nat} {L : PM} {w W : World} (g : Bat.Good (cfg C0 E cnt cl sa L)) (hC : C0 = w.heap.size) (hE : C0 + 3 ≤ E) (hI : IB (cfg C0 E cnt cl sa L) w none [] W) (hl : lk W (E + 1 + 1 + 1 + 1) false 0 0) (hs : W.heap.size = E + 10) :
    Calls Yba.prog 8 #[.iface 32 (.pointer (some ⟨E + 1 + 1 + 1 + 1, 0, none⟩)), .map (some (C0 + 1)), .map none, .func (.func 17) #[] #[.pointer (some ⟨E + 1 + 1 + 1 + 1 + 1, 0, none⟩), .pointer (some ⟨E + 1 + 1 + 1 + 1 + 1 + 1 + 1 + 1 + 1, 0, none⟩), .pointer (some ⟨E + 1 + 1 + 1 + 1 + 1 + 1 + 1 + 1, 0, none⟩), .pointer (some ⟨E, 0, none⟩), .pointer (some ⟨C0, 0, none⟩), .pointer (some ⟨C0 + 1 + 1, 0, none⟩), .pointer (some ⟨E + 1 + 1 + 1 + 1 + 1 + 1 + 1, 0, none⟩), .pointer (some ⟨E + 1, 0, none⟩), .pointer (some ⟨E + 1 + 1 + 1, 0, none⟩)]] W fun r w' =>
      ∃ k S n, Mem17 (cfg C0 E cnt cl sa L) k S w' ∧ lk w' (E + 1 + 1 + 1 + 1) false n n ∧ Below w.heap.size w w' ∧
        ((r = .returned .nilIface ∧ k = cl ∧ cl ≤ sa ∧ S.length = cnt) ∨ (r = .returned (.iface 115 (.pointer (some ⟨E + 1 + 1, 0, none⟩))) ∧ k = sa + 1 ∧ sa < cl)) := by
  have hB : ∀ b ∈ (cfg C0 E cnt cl sa L).blocks, b < W.heap.size := by
    intro b hb
    simp only [cfg, Cfg.blocks, List.mem_cons, List.not_mem_nil, or_false] at hb
    omega
  have hW : ∀ b ∈ (cfg C0 E cnt cl sa L).blocks, w.heap.size ≤ b := by
    intro b hb
    simp only [cfg, Cfg.blocks, List.mem_cons, List.not_mem_nil, or_false] at hb
    omega
  have hlb : w.heap.size ≤ (cfg C0 E cnt cl sa L).lb := hW _ (by simp [Cfg.blocks])
  have hcnt : cnt < 700 := g.cnt
  have hcl : cl = (cnt + 255) / 256 := g.callsIs
  have hlen : L.length = cnt := g.len
  refine (walk_any (IB (cfg C0 E cnt cl sa L) w) (E + 1 + 1 + 1 + 1) (C0 + 1) L [] (.map none) 17 (cfg C0 E cnt cl sa L).caps 0 W (client _ g w _ hB hlb (by omega)) (fn_ok _ g w _ hB hW) (by omega) (by omega) enter17 hI hl).mono ?_
  rintro r w' ⟨ev, D, n, rfl, hI', hl', hp⟩
  refine ⟨_, D, n, hI'.mem, hl', hI'.below, ?_⟩
  rcases ev with _ | a
  · left
    have h1 := (hp rfl).length_eq
    have h5 : (effs [] L).length = L.length := effs_full g.full
    rw [h5, hlen] at h1
    have h2 : (D.length + 255) / 256 ≤ sa := hI'.go rfl
    exact ⟨rfl, by omega, by omega, h1⟩
  · right
    obtain ⟨rfl, h2⟩ := hI'.end_ a rfl
    have h3 : D.length ≤ cnt := hI'.le
    have h4 : (D.length + 255) / 256 = sa + 1 := h2
    exact ⟨rfl, h4, by omega⟩

set_option maxRecDepth 100000 in
set_option maxHeartbeats 2000000 in
theorem main (n st : Nat) (hn : n < 65536) (hst : st < 256) (w : World) :
    Calls Yba.prog 4 #[.int .u16 n, .int .u8 st] w fun e w' => e = .returned (.bool true) ∧ Below w.heap.size w w' := by
  have hmm := @run_makeMap Yba.prog
  have hn' : (n : Int) < 65536 := by omega
  have hst' : (st : Int) < 256 := by omega
  obtain ⟨cnt, hcnt⟩ : ∃ cnt : Nat, (n : Int) % 700 = cnt := ⟨n % 700, by omega⟩
  have hc7 : cnt < 700 := by omega
  have Hcnt := hide hcnt
  clear hcnt
  go_enter Yba.func4, Yba.ntmps4
  go_wp2_with fail
  rw [Hcnt.out]
  have Hf : Hid (Fill w.heap.size cnt w 0 [] (((w.alloc (.cells #[.int .i64 cnt] 3)).alloc (.map #[] 0)).alloc (.cells #[.map (some (w.heap.size + 1))] 24))) := by
    refine ⟨rfl, by simp, ?_, ((row_new w _ 3).alloc _).alloc _, ?_, (((Below.refl _ _).alloc (Nat.le_refl _) _).alloc (by simp) _).alloc (by simp; omega) _, by simp⟩
    · have := smap_made (w.alloc (.cells #[.int .i64 cnt] 3))
      simp only [World.size_alloc] at this
      exact smap_kept this (World.grownBy_alloc _ _ none) (by simp)
    · have := row_new ((w.alloc (.cells #[.int .i64 cnt] 3)).alloc (.map #[] 0)) #[.map (some (w.heap.size + 1))] 24
      simp only [World.size_alloc] at this
      exact this
  clear hmm
  go_loopw [7] (fun t wr => ∃ (i : Nat) (L : PM), i ≤ cnt ∧ t = .int .i64 i ∧ Fill w.heap.size cnt w i L wr) (fun t _ => cnt - (intOf t).toNat)
  case atStart => exact ⟨0, [], Nat.zero_le _, rfl, Hf.out⟩
  case round =>
    clear Hf
    obtain ⟨i, L, hi, rfl, hf⟩ := hrel
    have c0 : wr.cell? ⟨w.heap.size, 0, none⟩ = some (.int .i64 cnt) := hf.cnt.cell 0
    have c2 : wr.cell? ⟨w.heap.size + 1 + 1, 0, none⟩ = some (.map (some (w.heap.size + 1))) := hf.mv.cell 0
    have hsz := hf.sz
    have Hfl := hide hf
    clear hf
    by_cases hlt : i < cnt
    · have hlti : (i : Int) < (cnt : Int) := by omega
      go_wp2_with fail
      have hfa := Hfl.out.alloc (.cells #[.int .i64 i] 3)
      generalize wr.alloc (.cells #[.int .i64 (i : Int)] 3) = wa at hfa ⊢
      have c2a : wa.cell? ⟨w.heap.size + 1 + 1, 0, none⟩ = some (.map (some (w.heap.size + 1))) := hfa.mv.cell 0
      have Hfa := hide hfa.drew
      clear hfa c0 c2 Hfl
      set_option maxRecDepth 1000000 in
      go_region_with (go_at_call 15; refine (key_any i (by omega) _).mono ?_; rintro e w1 ⟨rfl, hb1⟩; obtain ⟨w2, hrun, hcell, hfill⟩ := fill_upd Hfa.out (by omega) hb1 ⟨wr.heap.size, 0, none⟩)
      all_goals
        have Hfill := hide hfill
        clear hfill hrun hcell hb1 Hfa c2a
        go_wp2
        go_roundw
        case rel => exact ⟨i + 1, _, by omega, by go_num, Hfill.out⟩
        case measure => simp [intOf]; omega
    · obtain rfl : i = cnt := by omega
      obtain ⟨cl, hcl⟩ : ∃ cl : Nat, ((i : Int) + 256 - 1) / 256 = cl := ⟨(i + 255) / 256, by omega⟩
      obtain ⟨sa, hsa⟩ : ∃ sa : Nat, (st : Int) % ((cl : Int) + 1) = sa := ⟨st % (cl + 1), by simp⟩
      have Hcl := hide hcl
      have Hsa := hide hsa
      clear hcl hsa
      have hmm := @run_makeMap Yba.prog
      go_wp2_with fail
      rw [Hcl.out, Hsa.out]
      refine (new_any _ _).mono ?_
      rintro e w' ⟨rfl, rfl⟩
      have c2' : ((((((((((wr.alloc (.cells #[.int .i64 (cl : Int)] 3)).alloc (.cells #[.int .i64 (sa : Int)] 3)).alloc (.cells #[.string { data := #[122, 122, 32, 115, 116, 111, 112] }] 117)).alloc (.cells #[.iface 115 (.pointer (some ⟨wr.heap.size + 1 + 1, 0, none⟩))] 36)).alloc (.cells #[.bool false, .bool false, .int .i64 0, .int .i64 0] 34)).alloc (.cells #[.pointer (some ⟨wr.heap.size + 1 + 1 + 1 + 1, 0, none⟩)] 32)).alloc (.map #[] 0)).alloc (.cells #[.map (some (wr.heap.size + 1 + 1 + 1 + 1 + 1 + 1))] 49)).alloc (.cells #[.int .i64 0] 3)).alloc (.cells #[.bool true] 4)).cell? ⟨w.heap.size + 1 + 1, 0, none⟩ = some (.map (some (w.heap.size + 1))) := (start (cl := cl) (sa := sa) Hfl.out).1.mem.mv.cell 0
      clear c0 c2
      set_option maxRecDepth 1000000 in
      go_wp2_with fail
      clear c2' hmm
      have hstart := start (cl := cl) (sa := sa) Hfl.out
      have hgood : Bat.Good (cfg w.heap.size wr.heap.size i cl sa L) := good_cfg hsz Hfl.out.keys Hfl.out.full hc7 (by have := Hcl.out; omega) (by have := Hsa.out; have := Hcl.out; have h1 := Int.emod_lt_of_pos (st : Int) (show (0 : Int) < (cl : Int) + 1 by omega); omega)
      generalize ((((((((((wr.alloc (.cells #[.int .i64 (cl : Int)] 3)).alloc (.cells #[.int .i64 (sa : Int)] 3)).alloc (.cells #[.string { data := #[122, 122, 32, 115, 116, 111, 112] }] 117)).alloc (.cells #[.iface 115 (.pointer (some ⟨wr.heap.size + 1 + 1, 0, none⟩))] 36)).alloc (.cells #[.bool false, .bool false, .int .i64 0, .int .i64 0] 34)).alloc (.cells #[.pointer (some ⟨wr.heap.size + 1 + 1 + 1 + 1, 0, none⟩)] 32)).alloc (.map #[] 0)).alloc (.cells #[.map (some (wr.heap.size + 1 + 1 + 1 + 1 + 1 + 1))] 49)).alloc (.cells #[.int .i64 0] 3)).alloc (.cells #[.bool true] 4)) = W at hstart ⊢
      obtain ⟨hI, hlk, hsW⟩ := hstart
      refine (snap_call hgood rfl hsz hI hlk hsW).mono ?_
      rintro e w3 ⟨k, S, nn, hm, hl3, hb3, hres⟩
      have g1 : w3.cell? ⟨wr.heap.size + 1 + 1 + 1 + 1 + 1 + 1 + 1 + 1 + 1, 0, none⟩ = some (.bool true) := hm.good.cell 0
      have g2 : w3.cell? ⟨wr.heap.size + 1 + 1 + 1 + 1 + 1, 0, none⟩ = some (.pointer (some ⟨wr.heap.size + 1 + 1 + 1 + 1, 0, none⟩)) := hm.lkv.cell 0
      have g3 : w3.cell? ⟨wr.heap.size + 1 + 1 + 1 + 1, 0, none⟩ = some (.bool false) := hl3.cell 0
      have g4 : w3.cell? ⟨wr.heap.size + 1 + 1 + 1 + 1, 1, none⟩ = some (.bool false) := hl3.cell 1
      have g5 : w3.cell? ⟨wr.heap.size + 1 + 1 + 1 + 1, 2, none⟩ = some (.int .i64 nn) := hl3.cell 2
      have g6 : w3.cell? ⟨wr.heap.size + 1 + 1 + 1 + 1, 3, none⟩ = some (.int .i64 nn) := hl3.cell 3
      have g7 : w3.cell? ⟨wr.heap.size + 1, 0, none⟩ = some (.int .i64 sa) := hm.stop.cell 0
      have g8 : w3.cell? ⟨wr.heap.size, 0, none⟩ = some (.int .i64 cl) := hm.calls.cell 0
      have g9 : w3.cell? ⟨wr.heap.size + 1 + 1 + 1 + 1 + 1 + 1 + 1 + 1, 0, none⟩ = some (.int .i64 k) := hm.kv.cell 0
      have g10 : w3.cell? ⟨wr.heap.size + 1 + 1 + 1 + 1 + 1 + 1 + 1, 0, none⟩ = some (.map (some (wr.heap.size + 1 + 1 + 1 + 1 + 1 + 1))) := hm.seenv.cell 0
      have g11 : w3.cell? ⟨w.heap.size, 0, none⟩ = some (.int .i64 i) := hm.count.cell 0
      have g12 : w3.cell? ⟨wr.heap.size + 1 + 1 + 1, 0, none⟩ = some (.iface 115 (.pointer (some ⟨wr.heap.size + 1 + 1, 0, none⟩))) := hm.sent.cell 0
      have g13 : ∀ q ty, (Builtin.len_ #[49] ty #[.map (some (wr.heap.size + 1 + 1 + 1 + 1 + 1 + 1))]).run Yba.prog (w3.drewN q) = .ok (.int .i64 (S.length : Nat)) (w3.drewN q) := fun q ty => by
        have h : smap (w3.drewN q) (wr.heap.size + 1 + 1 + 1 + 1 + 1 + 1) (sn S) := hm.seen
        rw [run_len_s Yba.underlying49 h ty, sn_length]
      have Hb3 := hide hb3
      clear hm hl3 hb3 hI hlk hsW hgood Hfl
      rcases hres with ⟨rfl, hk, hcs, hS⟩ | ⟨rfl, hk, hcs⟩
      · subst hk
        rw [hS] at g13
        clear hS
        go_wp2_with fail
        go_quiet (fail)
        go_wp2
        go_ret
        exact ⟨rfl, below_drewN Hb3.out _⟩
      · subst hk
        have hsa3 : (sa : Int) ≤ 3 := by have := Hcl.out; omega
        clear g13
        go_wp2_with fail
        go_quiet (fail)
        go_wp2
        go_ret
        exact ⟨rfl, below_drewN Hb3.out _⟩
end Go.Proofs.Ybulksmu.BatMain
