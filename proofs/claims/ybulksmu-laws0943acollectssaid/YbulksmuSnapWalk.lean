import Derived.Test.YbulksmuSnap
import Derived.Maps.AppendAt
import Derived.BigQuiet
import Derived.Deep.QuietTactic
import Derived.WalkSmall
namespace Go.Proofs.Ybulksmu.Snap
open Go.RowKit Go.Proofs.Ybulksmu.Mem Go.Proofs.Ybulksmu.Lock

theorem Yba.info9 : (Yba.prog.info? 9).map (fun i => (i.zero, i.size, i.bytes)) = some (some (.string ByteArray.empty), 1, 16) := by kernel_rfl
theorem Yba.info25 : (Yba.prog.info? 25).map (fun i => (i.zero, i.size, i.bytes)) = some (some (.pointer none), 1, 8) := by kernel_rfl
theorem size_made (z : Array Value) (n : Nat) : (madeCells z n).size = n := by simp [madeCells]
theorem make_keys : ∃ cs : Array Value, cs.size = 256 ∧ ∀ w, (Instr.makeSlice 22 (.int .i64 0) (.int .i64 256)).run Yba.prog w = .ok (.slice (some ⟨w.heap.size, 0, none⟩) 0 256) (w.alloc (.cells cs 9)) := by
  obtain ⟨i, hi, hz, h1, h2⟩ := info_parts Yba.info9
  refine ⟨madeCells (Value.cells (.string ByteArray.empty)) (256 * 1), size_made _ _, fun w => ?_⟩
  have := run_make (P := Yba.prog) w 22 9 i _ Yba.underlying22 hi hz .i64 .i64 0 256 (by omega) (by omega) (by rw [h2]; omega) (by omega)
  rw [h1] at this
  exact this
theorem make_vals : ∃ cs : Array Value, cs.size = 256 ∧ ∀ w, (Instr.makeSlice 38 (.int .i64 0) (.int .i64 256)).run Yba.prog w = .ok (.slice (some ⟨w.heap.size, 0, none⟩) 0 256) (w.alloc (.cells cs 25)) := by
  obtain ⟨i, hi, hz, h1, h2⟩ := info_parts Yba.info25
  refine ⟨madeCells (Value.cells (.pointer none)) (256 * 1), size_made _ _, fun w => ?_⟩
  have := run_make (P := Yba.prog) w 38 25 i _ Yba.underlying38 hi hz .i64 .i64 0 256 (by omega) (by omega) (by rw [h2]; omega) (by omega)
  rw [h1] at this
  exact this

theorem meth_lock (a : Addr) (w : World) : (method 445 32 (.pointer (some a)) "Lock").run Yba.prog w = .ok (107, .pointer (some a)) w := by kernel_rfl
theorem meth_unlock (a : Addr) (w : World) : (method 445 32 (.pointer (some a)) "Unlock").run Yba.prog w = .ok (108, .pointer (some a)) w := by kernel_rfl
attribute [local go_sem] meth_lock meth_unlock

/-- How many entries the iterator in block r has passed. -/
def passed (w : World) (r : Nat) : Nat := match w.heap[r]? with
  | some (.mapIter _ _ seen _) => seen.size
  | _ => 0
theorem passed_is {w : World} {r b n : Nat} {vis : List Nat} (h : iterAt w r b n vis) : passed w r = vis.length := by
  unfold iterAt at h; simp [passed, h]

/-- The walk under way: the entries 'vis' have been passed, 'D' handed over, 'bt' gathered. -/
structure Mid (I : Option Addr → List Ent → World → Prop) (B lb mb : Nat) (L C : PM) (vis : List Nat) (D bt : List Ent) (w : World) : Prop where
  hD : D.length % 256 = 0
  nd : vis.Nodup
  lt : ∀ i ∈ vis, i < L.length
  keys : w.ownsRow B 9 1 (.slice (some ⟨B, 0, none⟩) bt.length 256) bt.length (bt.map kv)
  vals : w.ownsRow B 25 1 (.slice (some ⟨B + 1, 0, none⟩) bt.length 256) bt.length (bt.map vv)
  it : iterAt w (B + 2) mb L.length vis
  sz : B + 3 ≤ w.heap.size
  inv : I none D w

/-- The loop's relation. -/
def Rel (I : Option Addr → List Ent → World → Prop) (B lb mb : Nat) (L C : PM) (ks vs : Value) (wr : World) : Prop :=
  ∃ (vis : List Nat) (D bt : List Ent) (n : Nat), ks = .slice (some ⟨B, 0, none⟩) bt.length 256 ∧ vs = .slice (some ⟨B + 1, 0, none⟩) bt.length 256 ∧
    bt.length < 256 ∧ D ++ bt = visE C L vis ∧ lk wr lb true (n + 1) n ∧ n ≤ 1000 + vis.length ∧ Mid I B lb mb L C vis D bt wr

section
variable {I : Option Addr → List Ent → World → Prop} {B lb mb : Nat} {L C : PM} {cv : Value} {vis : List Nat} {D bt : List Ent} {w w' : World}
theorem Mid.len (h : Mid I B lb mb L C vis D bt w) : vis.length ≤ L.length := by
  obtain ⟨rem, hr⟩ := rest_of L.length vis h.nd h.lt
  have := hr.length_eq
  simp at this
  omega
theorem iter_kept {r b n : Nat} {row : Option Nat} (h : iterAt w r b n vis) (hg : w.grownBy w' row) (hne : some r ≠ row) : iterAt w' r b n vis := by
  unfold iterAt at *
  rw [hg.block r (Array.getElem?_eq_some_iff.1 h).1 hne]; exact h
/-- The iterator has stepped. -/
theorem Mid.step (h : Mid I B lb mb L C vis D bt w) (cl : Client I B lb mb L C cv) {i : Nat} {s : ByteArray} {x : Option Addr} (hL : L[i]? = some (s, x)) (hni : i ∉ vis) (hit : iterAt w' (B + 2) mb L.length (vis ++ [i])) (hg : w.grownBy w' (some (B + 2))) :
    Mid I B lb mb L C (vis ++ [i]) D bt w' := by
  refine ⟨h.hD, ?_, ?_, h.keys.kept hg (by simp [Value.ownBlock]), h.vals.kept hg (by simp [Value.ownBlock]), hit, Nat.le_trans h.sz hg.size, cl.stay h.inv (Stay.grown hg fun k hk => by cases hk; exact Or.inr ⟨by omega, by omega⟩)⟩
  · rw [List.nodup_append]
    exact ⟨h.nd, by simp, fun a ha b hb => by simp at hb; subst hb; exact fun e => hni (e ▸ ha)⟩
  · intro j hj
    simp at hj
    rcases hj with hj | rfl
    · exact h.lt j hj
    · exact (List.getElem?_eq_some_iff.1 hL).1
/-- A block that is none of the walk's own has turned, or one has come. -/
theorem Mid.kept (h : Mid I B lb mb L C vis D bt w) (cl : Client I B lb mb L C cv) (hlb : lb < B) (hg : w.grownBy w' (some lb)) : Mid I B lb mb L C vis D bt w' :=
  ⟨h.hD, h.nd, h.lt, h.keys.kept hg (by simp [Value.ownBlock]; omega), h.vals.kept hg (by simp [Value.ownBlock]; omega), iter_kept h.it hg (by simp; omega), Nat.le_trans h.sz hg.size, cl.stay h.inv (Stay.grown hg fun k hk => by cases hk; exact Or.inl rfl)⟩
/-- Both appends. -/
theorem Mid.add (h : Mid I B lb mb L C vis D bt w) (cl : Client I B lb mb L C cv) (s : ByteArray) (a : Addr) {w1 w2 : World} {o1 o2 : Obj}
    (hk : w1.ownsRow B 9 1 (.slice (some ⟨B, 0, none⟩) (bt.length + 1) 256) (bt.length + 1) (bt.map kv ++ [.string s])) (hg1 : (w.alloc o1).grownBy w1 (some B))
    (hv : w2.ownsRow B 25 1 (.slice (some ⟨B + 1, 0, none⟩) (bt.length + 1) 256) (bt.length + 1) (bt.map vv ++ [.pointer (some a)])) (hg2 : (w1.alloc o2).grownBy w2 (some (B + 1))) :
    Mid I B lb mb L C vis D (bt ++ [(s, a)]) w2 := by
  have e1 : (bt ++ [(s, a)]).length = bt.length + 1 := by simp
  have e2 : (bt ++ [(s, a)]).map kv = bt.map kv ++ [.string s] := by simp [kv]
  have e3 : (bt ++ [(s, a)]).map vv = bt.map vv ++ [.pointer (some a)] := by simp [vv]
  refine ⟨h.hD, h.nd, h.lt, ?_, ?_, ?_, ?_, ?_⟩
  · rw [e1, e2]; exact (hk.alloc _).kept hg2 (by simp [Value.ownBlock])
  · rw [e1, e3]; exact hv
  · exact iter_kept (iter_kept (iter_kept (iter_kept h.it (World.grownBy_alloc _ _ none) (by simp)) hg1 (by simp)) (World.grownBy_alloc _ _ none) (by simp)) hg2 (by simp)
  · have := h.sz; have h1 := hg1.size; have h2 := hg2.size; simp at h1 h2; omega
  · exact cl.stay h.inv (((Stay.alloc _ _ _ _).trans (Stay.grown hg1 fun k hk => by cases hk; exact Or.inr ⟨by omega, by omega⟩)).trans ((Stay.alloc _ _ _ _).trans (Stay.grown hg2 fun k hk => by cases hk; exact Or.inr ⟨by omega, by omega⟩)))
theorem lk_add {b n m : Nat} {held : Bool} {w1 w2 : World} {o1 o2 : Obj} (h : lk w b held n m) (hb : b < B) (hg1 : (w.alloc o1).grownBy w1 (some B)) (hg2 : (w1.alloc o2).grownBy w2 (some (B + 1))) : lk w2 b held n m :=
  row.kept (row.alloc (row.kept (row.alloc h o1) hg1 (by simp; omega)) o2) hg2 (by simp; omega)
theorem Stay.drewN (B lb : Nat) (w : World) (q : Nat) : Stay B lb w (w.drewN q) := ⟨rfl, rfl, rfl, Nat.le_refl _, fun _ _ _ _ => rfl⟩
theorem Mid.drewN (h : Mid I B lb mb L C vis D bt w) (cl : Client I B lb mb L C cv) (q : Nat) : Mid I B lb mb L C vis D bt (w.drewN q) :=
  ⟨h.hD, h.nd, h.lt, h.keys, h.vals, h.it, h.sz, cl.stay h.inv (Stay.drewN _ _ _ _)⟩
theorem own_zero {g e cap n : Nat} {xs : List Value} (h : w.ownsRow B e 1 (.slice (some ⟨g, 0, none⟩) n cap) n xs) : w.ownsRow B e 1 (.slice (some ⟨g, 0, none⟩) 0 cap) 0 [] := by
  rcases h.2 with ⟨h', _⟩ | ⟨g', cap', cur, h', hb, hg, _, hm, hs, _⟩
  · cases h'
  · simp only [Value.slice.injEq, Option.some.injEq, Addr.mk.injEq, and_true, true_and] at h'
    obtain ⟨rfl, rfl⟩ := h'
    exact ⟨rfl, .inr ⟨g, cap, cur, rfl, hb, hg, Nat.zero_le _, hm, hs, by simp⟩⟩
theorem own_same {g e cap n : Nat} {xs : List Value} (h : w.ownsRow B e 1 (.slice (some ⟨g, 0, none⟩) n cap) n xs) (hg : w'.heap[g]? = w.heap[g]?) : w'.ownsRow B e 1 (.slice (some ⟨g, 0, none⟩) n cap) n xs := by
  rcases h.2 with ⟨h', _⟩ | ⟨g', cap', cur, h', hb, hgg, r⟩
  · cases h'
  · simp only [Value.slice.injEq, Option.some.injEq, Addr.mk.injEq, and_true, true_and] at h'
    obtain ⟨rfl, rfl⟩ := h'
    exact ⟨h.1, .inr ⟨g, cap, cur, rfl, hb, hg.trans hgg, r⟩⟩
/-- fn has taken a full batch. -/
theorem Mid.handed (h : Mid I B lb mb L C vis D bt w) (hl : bt.length = 256) (hI : I none (D ++ bt) w') (hb : ∀ k, B ≤ k → k < B + 3 → w'.heap[k]? = w.heap[k]?) (hs : w.heap.size ≤ w'.heap.size) :
    Mid I B lb mb L C vis (D ++ bt) [] w' := by
  refine ⟨?_, h.nd, h.lt, ?_, ?_, ?_, Nat.le_trans h.sz hs, hI⟩
  · have := h.hD; rw [List.length_append]; omega
  · exact own_zero (own_same h.keys (hb B (Nat.le_refl _) (by omega)))
  · exact own_zero (own_same h.vals (hb (B + 1) (by omega) (by omega)))
  · have := h.it; unfold iterAt at *; rw [hb (B + 2) (by omega) (by omega)]; exact this
theorem visE_step {i : Nat} {s : ByteArray} {x : Option Addr} (h : D ++ bt = visE C L vis) (hL : L[i]? = some (s, x)) : D ++ bt ++ ((effP C s x).map fun a => (s, a)).toList = visE C L (vis ++ [i]) := by
  rw [visE_append, visE_one C L hL, h]
end

theorem fn_full {I : Option Addr → List Ent → World → Prop} {B lb mb : Nat} {L C : PM} {f : Nat} {caps : Array Value} {vis : List Nat} {D bt : List Ent} {n : Nat} {w : World} (hfn : FnOk I B lb L C f caps) (h : Mid I B lb mb L C vis D bt w) (hE : D ++ bt = visE C L vis) (hl : lk w lb false n n) (hb : bt.length = 256) {m : Nat} (hm : bt.length = m) :
    Calls Yba.prog f (#[.slice (some ⟨B, 0, none⟩) m 256, .slice (some ⟨B + 1, 0, none⟩) m 256] ++ caps) w fun e w' =>
      ∃ ev, e = .returned (errV ev) ∧ I ev (D ++ bt) w' ∧ w'.heap[lb]? = w.heap[lb]? ∧ (∀ k, B ≤ k → k < B + 3 → w'.heap[k]? = w.heap[k]?) ∧ w.heap.size ≤ w'.heap.size := by
  obtain ⟨R, hR⟩ := visE_rest C L h.nd h.lt
  have := hfn D bt n w h.inv hl h.keys h.vals ⟨R, by rw [hE]; exact hR, Or.inl hb⟩ h.hD (by omega) (by omega) h.sz
  subst hm
  exact this
theorem fn_last {I : Option Addr → List Ent → World → Prop} {B lb mb : Nat} {L C : PM} {f : Nat} {caps : Array Value} {vis : List Nat} {D bt : List Ent} {n : Nat} {w : World} (hfn : FnOk I B lb L C f caps) (h : Mid I B lb mb L C vis D bt w) (hE : D ++ bt = visE C L vis) (hl : lk w lb false n n) (hb : bt.length < 256) (h0 : 0 < bt.length) (ha : ∀ i, i < L.length → i ∈ vis) :
    Calls Yba.prog f (#[.slice (some ⟨B, 0, none⟩) bt.length 256, .slice (some ⟨B + 1, 0, none⟩) bt.length 256] ++ caps) w fun e w' =>
      ∃ ev, e = .returned (errV ev) ∧ I ev (D ++ bt) w' ∧ w'.heap[lb]? = w.heap[lb]? ∧ (∀ k, B ≤ k → k < B + 3 → w'.heap[k]? = w.heap[k]?) ∧ w.heap.size ≤ w'.heap.size :=
  hfn D bt n w h.inv hl h.keys h.vals ⟨[], by rw [List.append_nil, hE]; exact visE_all C L h.nd h.lt ha, Or.inr rfl⟩ h.hD h0 (by omega) h.sz

set_option maxRecDepth 100000 in
set_option maxHeartbeats 1000000 in
theorem walk_any (I : Option Addr → List Ent → World → Prop) (lb mb : Nat) (L C : PM) (cv : Value) (f : Nat) (caps : Array Value) (n0 : Nat) (w : World)
    (cl : Client I w.heap.size lb mb L C cv) (hfn : FnOk I w.heap.size lb L C f caps) (hL : L.length ≤ 100000) (hn0 : n0 ≤ 1000) (hent : ∀ args w, (callFunc f args).run Yba.prog w = .ok (.enter f args) w)
    (hI : I none [] w) (hlk : lk w lb false n0 n0) :
    Calls Yba.prog 8 #[.iface 32 (.pointer (some ⟨lb, 0, none⟩)), .map (some mb), cv, .func (.func f) #[] caps] w fun e w' =>
      ∃ ev D n, e = .returned (errV ev) ∧ I ev D w' ∧ lk w' lb false n n ∧ (ev = none → D.Perm (effs C L)) := by
  obtain ⟨i9, h9, h9z, h91, h9b⟩ := info_parts Yba.info9
  obtain ⟨i25, h25, h25z, h251, h25b⟩ := info_parts Yba.info25
  obtain ⟨ck, hck, hmk⟩ := make_keys
  obtain ⟨cw, hcw, hmv⟩ := make_vals
  have hlb := hlk.lt
  have Hlk := hide hlk
  have HI := hide hI
  have Hck := hide hck
  have Hcw := hide hcw
  clear hlk hI hck hcw
  go_enter Yba.func8, Yba.ntmps8
  go_wp2_with fail
  refine (lock_any lb n0 n0 _ (Hlk.out.alloc _ |>.alloc _) (by omega)).mono ?_
  rintro e w1 ⟨rfl, hlk1, hg1, hs1⟩
  have hst1 : Stay w.heap.size lb w w1 := ((Stay.alloc _ _ _ _).trans (Stay.alloc _ _ _ _)).trans (Stay.grown hg1 fun k hk => by cases hk; exact Or.inl rfl)
  have hI1 : I none [] w1 := cl.stay HI.out hst1
  have hm1 : smap w1 mb (pm L) := cl.map hI1
  have hk1 : row w1 w.heap.size 9 ck := ((row_new w ck 9).alloc _).kept hg1 (by simp; omega)
  have hv1 : row w1 (w.heap.size + 1) 25 cw := by
    have := row_new (w.alloc (.cells ck 9)) cw 25
    simp only [World.size_alloc] at this
    exact this.kept hg1 (by simp; omega)
  have Hlk1 := hide hlk1
  have HI1 := hide hI1
  have Hk1 := hide hk1
  have Hv1 := hide hv1
  simp at hs1
  clear hlk1 hI1 hk1 hv1 hg1 hst1
  go_wp2_with (at_range; refine wpList_range_s _ rfl _ 24 9 25 rfl Yba.underlying24 mb L rfl hm1 ?_; intro w2 hit2 hg2 hs2)
  have hs1' : w1.heap.size = w.heap.size + 2 := hs1
  rw [hs1'] at hit2 hs2
  rw [hs1']
  have Hrel : Hid (Rel I w.heap.size lb mb L C (.slice (some ⟨w.heap.size, 0, none⟩) 0 256) (.slice (some ⟨w.heap.size + 1, 0, none⟩) 0 256) w2) := by
    refine ⟨[], [], [], n0, rfl, rfl, by simp, rfl, Hlk1.out.kept hg2 (by simp), by simp; omega, ⟨rfl, List.nodup_nil, by simp, ?_, ?_, hit2, by omega, cl.stay HI1.out (Stay.grown hg2 (fun k hk => by cases hk))⟩⟩
    · exact ⟨rfl, .inr ⟨_, 256, ck, rfl, Nat.le_refl _, Hk1.out.kept hg2 (by simp), by simp, by decide, by rw [Hck.out], by simp⟩⟩
    · exact ⟨rfl, .inr ⟨_, 256, cw, rfl, by omega, Hv1.out.kept hg2 (by simp), by simp, by decide, by rw [Hcw.out], by simp⟩⟩
  clear hm1 Hlk1 HI1 Hk1 Hv1 hs1 hs1' hit2 hg2 hs2 Hck Hcw hmk hmv Hlk HI
  go_frame
  go_loopw [9, 10] (fun ks vs wr => Rel I w.heap.size lb mb L C ks vs wr) (fun _ _ wr => L.length - passed wr (w.heap.size + 2))
  case atStart => exact Hrel.out
  case round =>
    clear Hrel
    obtain ⟨vis, D, bt, n, rfl, rfl, hb256, hvis, hlkr, hn, hmid⟩ := hrel
    have hmr : smap wr mb (pm L) := cl.map hmid.inv
    have hit := hmid.it
    have Hlkr := hide hlkr
    have Hvis := hide hvis
    have Hmid := hide hmid
    clear hlkr hvis hmid
    go_wp2_with (at_next; refine wpList_next_s _ rfl _ rfl mb (w.heap.size + 2) L vis rfl hmr hit ?_ ?_)
    · intro hall
      have hn5 : n ≤ 200000 := by have := Hmid.out.len; omega
      have Hall := hide hall
      clear hall hmr hit
      go_wp2_with fail
      refine (unlock_any lb (n + 1) n _ Hlkr.out (by omega)).mono ?_
      rintro e w6 ⟨rfl, hlk6, hg6, hs6⟩
      have Hm6 := hide (Hmid.out.kept cl hlb hg6)
      have Hlk6 := hide hlk6
      clear hlk6 hg6 hs6 Hmid Hlkr
      by_cases h0 : bt.length = 0
      · have hb0 : bt = [] := List.eq_nil_of_length_eq_zero h0
        have h0' : ((bt.length : Int) == 0) = true := by simp [h0]
        clear h0
        go_wp2
        go_ret
        refine ⟨none, D, n + 1, rfl, Hm6.out.inv, Hlk6.out, fun _ => ?_⟩
        have := Hvis.out
        rw [hb0, List.append_nil] at this
        rw [this]
        exact visE_all C L Hm6.out.nd Hm6.out.lt Hall.out
      · have h0' : ((bt.length : Int) == 0) = false := beq_eq_false_iff_ne.2 (by omega)
        go_wp2_with fail
        refine (fn_last hfn Hm6.out Hvis.out Hlk6.out hb256 (by omega) Hall.out).mono ?_
        rintro e w7 ⟨ev, rfl, hI7, hlk7, hb7, hs7⟩
        have Hlk7 := hide (show lk w7 lb false (n + 1) (n + 1) from hlk7.trans Hlk6.out)
        have hperm : (D ++ bt).Perm (effs C L) := by rw [Hvis.out]; exact visE_all C L Hm6.out.nd Hm6.out.lt Hall.out
        have Hperm := hide hperm
        clear hlk7 hb7 hs7 hperm
        rcases ev with _ | ea
        · simp only [errV]
          go_wp2
          go_ret
          exact ⟨none, _, _, rfl, hI7, Hlk7.out, fun _ => Hperm.out⟩
        · simp only [errV]
          go_wp2
          go_ret
          exact ⟨some ea, _, _, rfl, hI7, Hlk7.out, by simp⟩
    · intro i s x w3 hLi hni hit3 hg3 hs3 hen
      have hm3 : Mid I w.heap.size lb mb L C (vis ++ [i]) D bt w3 := Hmid.out.step cl hLi hni hit3 hg3
      have hE := visE_step (C := C) Hvis.out hLi
      have hch := cl.chg hm3.inv s
      have hlk3 : lk w3 lb true (n + 1) n := Hlkr.out.kept hg3 (by simp; omega)
      have hpas : L.length - (vis ++ [i]).length < L.length - passed wr (w.heap.size + 2) := by
        rw [passed_is Hmid.out.it]
        have := hm3.len
        simp at this ⊢
        omega
      have Hm3 := hide hm3
      have HE := hide hE
      have Hlk3 := hide hlk3
      have Hpas := hide hpas
      have Hs3 := hide hs3
      clear hm3 hE hlk3 hpas hs3 hit3 hg3 hLi Hlkr Hvis Hmid hit hmr
      have hcase : (lookP s C = none ∧ x = none) ∨ lookP s C = some none ∨ (∃ a, lookP s C = none ∧ x = some a) ∨ ∃ a, lookP s C = some (some a) := by
        rcases lookP s C with _ | _ | a
        · cases x
          · exact Or.inl ⟨rfl, rfl⟩
          · exact Or.inr (Or.inr (Or.inl ⟨_, rfl, rfl⟩))
        · exact Or.inr (Or.inl rfl)
        · exact Or.inr (Or.inr (Or.inr ⟨_, rfl⟩))
      rcases hcase with ⟨hlp, rfl⟩ | hlp | ⟨a, hlp, rfl⟩ | ⟨a, hlp⟩
      · have hE' : D ++ bt = visE C L (vis ++ [i]) := by simpa [effP, hlp] using HE.out
        rw [hlp] at hch
        have HE' := hide hE'
        clear hE' HE hlp
        go_wp2
        go_roundw
        case rel => exact ⟨vis ++ [i], D, bt, n, rfl, rfl, hb256, HE'.out, Hlk3.out, by simp; omega, Hm3.out⟩
        case measure => rw [passed_is Hm3.out.it]; exact Hpas.out
      · have hE' : D ++ bt = visE C L (vis ++ [i]) := by simpa [effP, hlp] using HE.out
        rw [hlp] at hch
        have HE' := hide hE'
        clear hE' HE hlp
        go_wp2
        go_roundw
        case rel => exact ⟨vis ++ [i], D, bt, n, rfl, rfl, hb256, HE'.out, Hlk3.out, by simp; omega, Hm3.out⟩
        case measure => rw [passed_is Hm3.out.it]; exact Hpas.out
      · have hE' : D ++ (bt ++ [(s, a)]) = visE C L (vis ++ [i]) := by simpa [effP, hlp] using HE.out
        rw [hlp] at hch
        have HE' := hide hE'
        clear hE' HE hlp
        go_wp2_with (first | (at_builtin; refine wpList_append_fits _ rfl (.tmp 37) (.tmp 39) 22 rfl w.heap.size 9 i9 1 Yba.underlying22 h9 h91 w.heap.size bt.length 256 _ rfl (Hm3.out.keys.alloc _) ⟨w3.heap.size, 0, none⟩ 1 1 [.string s] rfl rfl (cell_one_new _ _ _) (by intro u hu; simp at hu; subst hu; rfl) (by omega) ?_; intro w4 hk4 hg4) | (at_builtin; refine wpList_append_fits _ rfl (.tmp 41) (.tmp 43) 38 rfl w.heap.size 25 i25 1 Yba.underlying38 h25 h251 (w.heap.size + 1) bt.length 256 _ rfl ((((Hm3.out.vals.alloc _).kept hg4 (by simp [Value.ownBlock])).alloc _)) ⟨w4.heap.size, 0, none⟩ 1 1 [.pointer (some a)] rfl rfl (cell_one_new _ _ _) (by intro u hu; simp at hu; subst hu; rfl) (by omega) ?_; intro w5 hv5 hg5; have hm5 := Hm3.out.add cl s a hk4 hg4 hv5 hg5; have hlk5 := lk_add Hlk3.out hlb hg4 hg5; have Hm5 := hide hm5; have Hlk5 := hide hlk5; clear hm5 hlk5 hk4 hg4 hv5 hg5))
        · go_roundw
          case rel => exact ⟨vis ++ [i], D, bt ++ [(s, a)], n, by simp, by simp, by simp; omega, HE'.out, Hlk5.out, by simp; omega, Hm5.out⟩
          case measure => rw [passed_is Hm5.out.it]; exact Hpas.out
        · have hfull : (bt ++ [(s, a)]).length = 256 := by simp; omega
          have e1 : bt.length + 1 = 256 := by omega
          have hn5 : n ≤ 200000 := by have := Hm5.out.len; simp at this; omega
          have Hfull := hide hfull
          have He1 := hide e1
          clear hfull e1
          refine (unlock_any lb (n + 1) n _ Hlk5.out (by have := Hm5.out.len; simp at this; omega)).mono ?_
          rintro e w6 ⟨rfl, hlk6, hg6, hs6⟩
          have Hm6 := hide (Hm5.out.kept cl hlb hg6)
          have Hlk6 := hide hlk6
          clear hlk6 hg6 hs6 Hm5 Hlk5 Hm3 Hlk3
          go_wp2_with fail
          refine (fn_full hfn Hm6.out HE'.out Hlk6.out Hfull.out (m := bt.length + 1) (by simp)).mono ?_
          rintro e w7 ⟨ev, rfl, hI7, hlk7, hb7, hs7⟩
          have Hlk7 := hide (show lk w7 lb false (n + 1) (n + 1) from hlk7.trans Hlk6.out)
          rcases ev with _ | ea
          · have Hm7 := hide (Hm6.out.handed Hfull.out hI7 hb7 hs7)
            clear hI7 hlk7 hb7 hs7 Hlk6 Hm6
            simp only [errV]
            go_wp2_with fail
            refine (lock_any lb (n + 1) (n + 1) _ Hlk7.out (by have := Hm7.out.len; simp at this; omega)).mono ?_
            rintro e w8 ⟨rfl, hlk8, hg8, hs8⟩
            have Hm8 := hide (Hm7.out.kept cl hlb hg8)
            have Hlk8 := hide hlk8
            clear hlk8 hg8 hs8 Hm7 Hlk7
            go_wp2_with fail
            go_quiet (fail)
            go_wp2
            go_roundw
            case rel => exact ⟨vis ++ [i], D ++ (bt ++ [(s, a)]), [], n + 1, rfl, rfl, by simp, by rw [List.append_nil]; exact HE'.out, Hlk8.out, by simp; omega, Hm8.out.drewN cl nq⟩
            case measure => rw [passed_is (Hm8.out.drewN cl nq).it]; exact Hpas.out
          · clear hlk7 hb7 hs7 Hlk6 Hm6
            simp only [errV]
            go_wp2_with fail
            refine (lock_any lb (n + 1) (n + 1) _ Hlk7.out (by omega)).mono ?_
            rintro e w8 ⟨rfl, hlk8, hg8, hs8⟩
            have hI8 := cl.stay hI7 (Stay.grown hg8 fun k hk => by cases hk; exact Or.inl rfl)
            clear hI7 hg8 hs8
            go_wp2_with fail
            refine (unlock_any lb (n + 2) (n + 1) _ hlk8 (by omega)).mono ?_
            rintro e w9 ⟨rfl, hlk9, hg9, hs9⟩
            have hI9 := cl.stay hI8 (Stay.grown hg9 fun k hk => by cases hk; exact Or.inl rfl)
            clear hI8 hg9 hs9 hlk8
            go_wp2
            go_ret
            exact ⟨some ea, _, _, rfl, hI9, hlk9, by simp⟩
      · have hE' : D ++ (bt ++ [(s, a)]) = visE C L (vis ++ [i]) := by simpa [effP, hlp] using HE.out
        rw [hlp] at hch
        have HE' := hide hE'
        clear hE' HE hlp
        go_wp2_with (first | (at_builtin; refine wpList_append_fits _ rfl (.tmp 37) (.tmp 39) 22 rfl w.heap.size 9 i9 1 Yba.underlying22 h9 h91 w.heap.size bt.length 256 _ rfl (Hm3.out.keys.alloc _) ⟨w3.heap.size, 0, none⟩ 1 1 [.string s] rfl rfl (cell_one_new _ _ _) (by intro u hu; simp at hu; subst hu; rfl) (by omega) ?_; intro w4 hk4 hg4) | (at_builtin; refine wpList_append_fits _ rfl (.tmp 41) (.tmp 43) 38 rfl w.heap.size 25 i25 1 Yba.underlying38 h25 h251 (w.heap.size + 1) bt.length 256 _ rfl ((((Hm3.out.vals.alloc _).kept hg4 (by simp [Value.ownBlock])).alloc _)) ⟨w4.heap.size, 0, none⟩ 1 1 [.pointer (some a)] rfl rfl (cell_one_new _ _ _) (by intro u hu; simp at hu; subst hu; rfl) (by omega) ?_; intro w5 hv5 hg5; have hm5 := Hm3.out.add cl s a hk4 hg4 hv5 hg5; have hlk5 := lk_add Hlk3.out hlb hg4 hg5; have Hm5 := hide hm5; have Hlk5 := hide hlk5; clear hm5 hlk5 hk4 hg4 hv5 hg5))
        · go_roundw
          case rel => exact ⟨vis ++ [i], D, bt ++ [(s, a)], n, by simp, by simp, by simp; omega, HE'.out, Hlk5.out, by simp; omega, Hm5.out⟩
          case measure => rw [passed_is Hm5.out.it]; exact Hpas.out
        · have hfull : (bt ++ [(s, a)]).length = 256 := by simp; omega
          have e1 : bt.length + 1 = 256 := by omega
          have hn5 : n ≤ 200000 := by have := Hm5.out.len; simp at this; omega
          have Hfull := hide hfull
          have He1 := hide e1
          clear hfull e1
          refine (unlock_any lb (n + 1) n _ Hlk5.out (by have := Hm5.out.len; simp at this; omega)).mono ?_
          rintro e w6 ⟨rfl, hlk6, hg6, hs6⟩
          have Hm6 := hide (Hm5.out.kept cl hlb hg6)
          have Hlk6 := hide hlk6
          clear hlk6 hg6 hs6 Hm5 Hlk5 Hm3 Hlk3
          go_wp2_with fail
          refine (fn_full hfn Hm6.out HE'.out Hlk6.out Hfull.out (m := bt.length + 1) (by simp)).mono ?_
          rintro e w7 ⟨ev, rfl, hI7, hlk7, hb7, hs7⟩
          have Hlk7 := hide (show lk w7 lb false (n + 1) (n + 1) from hlk7.trans Hlk6.out)
          rcases ev with _ | ea
          · have Hm7 := hide (Hm6.out.handed Hfull.out hI7 hb7 hs7)
            clear hI7 hlk7 hb7 hs7 Hlk6 Hm6
            simp only [errV]
            go_wp2_with fail
            refine (lock_any lb (n + 1) (n + 1) _ Hlk7.out (by have := Hm7.out.len; simp at this; omega)).mono ?_
            rintro e w8 ⟨rfl, hlk8, hg8, hs8⟩
            have Hm8 := hide (Hm7.out.kept cl hlb hg8)
            have Hlk8 := hide hlk8
            clear hlk8 hg8 hs8 Hm7 Hlk7
            go_wp2_with fail
            go_quiet (fail)
            go_wp2
            go_roundw
            case rel => exact ⟨vis ++ [i], D ++ (bt ++ [(s, a)]), [], n + 1, rfl, rfl, by simp, by rw [List.append_nil]; exact HE'.out, Hlk8.out, by simp; omega, Hm8.out.drewN cl nq⟩
            case measure => rw [passed_is (Hm8.out.drewN cl nq).it]; exact Hpas.out
          · clear hlk7 hb7 hs7 Hlk6 Hm6
            simp only [errV]
            go_wp2_with fail
            refine (lock_any lb (n + 1) (n + 1) _ Hlk7.out (by omega)).mono ?_
            rintro e w8 ⟨rfl, hlk8, hg8, hs8⟩
            have hI8 := cl.stay hI7 (Stay.grown hg8 fun k hk => by cases hk; exact Or.inl rfl)
            clear hI7 hg8 hs8
            go_wp2_with fail
            refine (unlock_any lb (n + 2) (n + 1) _ hlk8 (by omega)).mono ?_
            rintro e w9 ⟨rfl, hlk9, hg9, hs9⟩
            have hI9 := cl.stay hI8 (Stay.grown hg9 fun k hk => by cases hk; exact Or.inl rfl)
            clear hI8 hg9 hs9 hlk8
            go_wp2
            go_ret
            exact ⟨some ea, _, _, rfl, hI9, hlk9, by simp⟩
end Go.Proofs.Ybulksmu.Snap
