import Derived.Test.YbulksmuSnapWalk
import Derived.LaidEql
namespace Go.Proofs.Ybulksmu.Bat
open Go.RowKit Go.Proofs.Ybulksmu.Mem Go.Proofs.Ybulksmu.Lock Go.Proofs.Ybulksmu.Snap

/-! ### Plain facts -/
theorem lookP_mem {L : PM} (hn : (L.map (·.1)).Nodup) {s : ByteArray} {x : Option Addr} (h : (s, x) ∈ L) : lookP s L = some x := by
  induction L with
  | nil => simp at h
  | cons q r ih =>
    simp only [List.map_cons, List.nodup_cons] at hn
    by_cases e : s = q.1
    · rcases List.mem_cons.1 h with rfl | h
      · simp [lookP]
      · exact absurd (List.mem_map.2 ⟨_, h, e⟩) hn.1
    · rcases List.mem_cons.1 h with rfl | h
      · exact absurd rfl e
      · simp [lookP, e]; exact ih hn.2 h
theorem effs_nil_mem {L : PM} {s : ByteArray} {a : Addr} (h : (s, a) ∈ effs [] L) : (s, some a) ∈ L := by
  unfold effs at h
  obtain ⟨q, hq, he⟩ := List.mem_filterMap.1 h
  obtain ⟨t, x⟩ := q
  cases x with
  | none => simp [eff, effP, lookP] at he
  | some y =>
    simp [eff, effP, lookP] at he
    obtain ⟨rfl, rfl⟩ := he
    exact hq
theorem effs_keys_sub (L : PM) : ((effs [] L).map (·.1)).Sublist (L.map (·.1)) := by
  induction L with
  | nil => exact List.Sublist.refl _
  | cons q r ih =>
    obtain ⟨t, x⟩ := q
    unfold effs at ih ⊢
    cases x with
    | none =>
      rw [List.filterMap_cons_none (by simp [eff, effP, lookP])]
      exact ih.cons _
    | some y =>
      rw [List.filterMap_cons_some (b := (t, y)) (by simp [eff, effP, lookP])]
      exact ih.cons_cons _
theorem effs_full {L : PM} (h : ∀ q ∈ L, ∃ a, q.2 = some a) : (effs [] L).length = L.length := by
  induction L with
  | nil => rfl
  | cons q r ih =>
    obtain ⟨a, ha⟩ := h q (by simp)
    have := ih (fun p hp => h p (by simp [hp]))
    unfold effs at this ⊢
    simp [eff, effP, lookP, ha] at this ⊢
    exact this

/-- What 'seen' holds. -/
def sn (D : List Ent) : SM := D.map fun e => (e.1, .bool true)
theorem sn_length (D : List Ent) : (sn D).length = D.length := by simp [sn]
theorem sn_none {D : List Ent} {s : ByteArray} (h : s ∉ D.map (·.1)) : findI s (sn D) 0 = none := by
  rw [findI_none]
  intro p hp e
  obtain ⟨q, hq, rfl⟩ := List.mem_map.1 hp
  exact h (List.mem_map.2 ⟨q, hq, e⟩)

/-- Where the law's variables lie. -/
structure Cfg where
  (bLk bGood bK bCalls bCount bM bSeen bStop bSent lb mb sb : Nat)
  (ea : Addr)
  (count calls stopAt : Nat)
  L : PM
def Cfg.blocks (c : Cfg) : List Nat := [c.bLk, c.bGood, c.bK, c.bCalls, c.bCount, c.bM, c.bSeen, c.bStop, c.bSent, c.lb, c.mb, c.sb]
/-- The law's memory: 'D' has been handed over; 'k' calls were made. -/
structure Mem17 (c : Cfg) (k : Nat) (S : List Ent) (w : World) : Prop where
  lkv : row w c.bLk 32 #[.pointer (some ⟨c.lb, 0, none⟩)]
  good : row w c.bGood 4 #[.bool true]
  kv : row w c.bK 3 #[.int .i64 k]
  calls : row w c.bCalls 3 #[.int .i64 c.calls]
  count : row w c.bCount 3 #[.int .i64 c.count]
  mv : row w c.bM 24 #[.map (some c.mb)]
  map : smap w c.mb (pm c.L)
  seenv : row w c.bSeen 49 #[.map (some c.sb)]
  seen : smap w c.sb (sn S)
  stop : row w c.bStop 3 #[.int .i64 c.stopAt]
  sent : row w c.bSent 36 #[.iface 115 (.pointer (some c.ea))]
/-- What is known of the numbers and blocks. -/
structure Good (c : Cfg) : Prop where
  nd : c.blocks.Nodup
  keys : (c.L.map (·.1)).Nodup
  full : ∀ q ∈ c.L, ∃ a, q.2 = some a
  len : c.L.length = c.count
  cnt : c.count < 700
  callsIs : c.calls = (c.count + 255) / 256
  stopLe : c.stopAt ≤ c.calls

def ptr (b : Nat) : Value := .pointer (some ⟨b, 0, none⟩)
def Cfg.caps (c : Cfg) : Array Value := #[ptr c.bLk, ptr c.bGood, ptr c.bK, ptr c.bCalls, ptr c.bCount, ptr c.bM, ptr c.bSeen, ptr c.bStop, ptr c.bSent]

theorem zero_ptr (w : World) : (zeroValue 25).run Yba.prog w = .ok (.pointer none) w := by kernel_rfl
theorem zero_bool (w : World) : (zeroValue 4).run Yba.prog w = .ok (.bool false) w := by kernel_rfl

theorem run_equalIn_ptr_same {P : Program} (w : World) (d : Nat) {tp te : TypeId} {j : TypeInfo} (a : Addr) (hp : P.underlying tp = some (.pointer te)) (hte : P.info? te = some j) :
    (Op.equalIn (d + 1) tp (.pointer (some a)) (.pointer (some a))).run P w = .ok true w := by
  simp [Op.equalIn, run_underlying hp, typeInfo, sizeOf, run_sameAddr_same, hte]
theorem info3 : (Yba.prog.info? 3).map (fun i => (i.zero, i.size, i.bytes)) = some (some (.int .i64 0), 1, 8) := by kernel_rfl
theorem neq_ptr (a : Addr) (w : World) : (binOp .neq 25 (.pointer (some a)) (.pointer (some a))).run Yba.prog w = .ok (.bool false) w := by
  obtain ⟨i, hi, _⟩ := info_parts info3
  simp only [binOp]
  simp [Op.equal, Op.maxDepth, run_equalIn_ptr_same w 9999 a Yba.underlying25 hi]
theorem eql_ptr (a : Addr) (w : World) : (binOp .eql 25 (.pointer (some a)) (.pointer (some a))).run Yba.prog w = .ok (.bool true) w := by
  obtain ⟨i, hi, _⟩ := info_parts info3
  simp only [binOp]
  simp [Op.equal, Op.maxDepth, run_equalIn_ptr_same w 9999 a Yba.underlying25 hi]
attribute [local go_sem] neq_ptr eql_ptr

/-- The loop over one batch: only 'seen' has turned. -/
def R17 (c : Cfg) (w : World) (S : List Ent) (wr : World) : Prop := w.grownBy wr (some c.sb) ∧ wr.heap.size = w.heap.size ∧ smap wr c.sb (sn S)
theorem ne_of_nodup {l : List Nat} (h : l.Nodup) {i j : Nat} (hij : i ≠ j) {a b : Nat} (ha : l[i]? = some a) (hb : l[j]? = some b) : a ≠ b := by
  intro e
  subst e
  exact hij ((List.getElem?_inj (List.getElem?_eq_some_iff.1 ha).1 h).1 (ha.trans hb.symm))

theorem round17 (c : Cfg) (g : Good c) {B : Nat} {D bt R : List Ent} {w wr : World} {k : Nat} (hm : Mem17 c k D w)
    (hk : w.ownsRow B 9 1 (.slice (some ⟨B, 0, none⟩) bt.length 256) bt.length (bt.map kv)) (hv : w.ownsRow B 25 1 (.slice (some ⟨B + 1, 0, none⟩) bt.length 256) bt.length (bt.map vv))
    (hp : (D ++ bt ++ R).Perm (effs [] c.L)) (hB : ∀ b ∈ c.blocks, b < B) {j : Nat} (hj : j < bt.length) (hr : R17 c w (D ++ bt.take j) wr) :
    ∃ (s : ByteArray) (a : Addr) (w2 : World), wr.cell? ⟨B, j, none⟩ = some (.string s) ∧ wr.cell? ⟨B + 1, j, none⟩ = some (.pointer (some a)) ∧ wr.cell? ⟨c.bM, 0, none⟩ = some (.map (some c.mb)) ∧ wr.cell? ⟨c.bSeen, 0, none⟩ = some (.map (some c.sb)) ∧
      (Instr.lookup 24 (.map (some c.mb)) (.string s) true).run Yba.prog wr = .ok (.tuple #[.pointer (some a), .bool true]) wr ∧ (Instr.lookup 49 (.map (some c.sb)) (.string s) false).run Yba.prog wr = .ok (.bool false) wr ∧
      (Instr.mapUpdate 49 (.map (some c.sb)) (.string s) (.bool true)).run Yba.prog wr = .ok () w2 ∧ R17 c w (D ++ bt.take (j + 1)) w2 := by
  obtain ⟨hg, hs, hsm⟩ := hr
  obtain ⟨⟨s, a⟩, hsa⟩ : ∃ e, bt[j]? = some e := ⟨_, List.getElem?_eq_getElem hj⟩
  have hsb : c.sb < B := hB _ (by simp [Cfg.blocks])
  have hmem : (s, a) ∈ D ++ bt ++ R := by
    have := List.mem_of_getElem? hsa
    simp [this]
  have hinL : (s, some a) ∈ c.L := effs_nil_mem (hp.mem_iff.1 hmem)
  have hnd : ((D ++ bt ++ R).map (·.1)).Nodup := (hp.map _).nodup_iff.2 ((effs_keys_sub c.L).nodup g.keys)
  have htake : bt.take (j + 1) = bt.take j ++ [(s, a)] := by
    rw [List.take_add_one, hsa]; rfl
  have hfresh : s ∉ (D ++ bt.take j).map (·.1) := by
    have e : D ++ bt ++ R = (D ++ bt.take j) ++ ((s, a) :: (bt.drop (j + 1) ++ R)) := by
      have h1 : bt = bt.take j ++ (s, a) :: bt.drop (j + 1) := by
        have h2 : bt.drop j = (s, a) :: bt.drop (j + 1) := by
          rw [List.drop_eq_getElem_cons hj, (List.getElem?_eq_some_iff.1 hsa).2]
        rw [← h2, List.take_append_drop]
      calc D ++ bt ++ R = D ++ (bt.take j ++ (s, a) :: bt.drop (j + 1)) ++ R := by rw [← h1]
        _ = _ := by simp
    rw [e, List.map_append, List.map_cons, List.nodup_append] at hnd
    intro h
    exact hnd.2.2 s h s (by simp) rfl
  have hne : ∀ b t cs, row w b t cs → b ≠ c.sb → row wr b t cs := fun b t cs h hb => h.kept hg (by simp; exact hb)
  have hmv := hne _ _ _ hm.mv (ne_of_nodup g.nd (i := 5) (j := 11) (by decide) rfl rfl)
  have hsv := hne _ _ _ hm.seenv (ne_of_nodup g.nd (i := 6) (j := 11) (by decide) rfl rfl)
  have hmap : smap wr c.mb (pm c.L) := smap_kept hm.map hg (by simp; exact ne_of_nodup g.nd (i := 10) (j := 11) (by decide) rfl rfl)
  have hk' := hk.kept hg (by simp [Value.ownBlock]; omega)
  have hv' := hv.kept hg (by simp [Value.ownBlock]; omega)
  have hnone := sn_none hfresh
  obtain ⟨w2, hrun, hsm2, hg2, hs2⟩ := run_update_new Yba.underlying49 Yba.underlying9 hsm hnone (.bool true)
  refine ⟨s, a, w2, ?_, ?_, hmv.cell 0, hsv.cell 0, ?_, ?_, hrun, grown_trans hg hg2, hs2.trans hs, ?_⟩
  · rw [hk'.cellAt j (by omega)]; simp [hsa, kv]
  · rw [hv'.cellAt j (by omega)]; simp [hsa, vv]
  · rw [run_lookup_s Yba.underlying24 Yba.underlying9 (zero_ptr wr) hmap s true, valAt_pm, has_pm, lookP_mem g.keys hinL]; rfl
  · rw [run_lookup_s Yba.underlying49 Yba.underlying9 (zero_bool wr) hsm s false]; simp [valAt, hnone]
  · rw [htake, ← List.append_assoc]
    have : sn (D ++ bt.take j ++ [(s, a)]) = sn (D ++ bt.take j) ++ [(s, .bool true)] := by simp [sn]
    rw [this]; exact hsm2

/-- What the k-th call of fn answers. -/
def evOf (c : Cfg) (k : Nat) : Option Addr := if k = c.stopAt then some c.ea else none
theorem evOf_yes {c : Cfg} {k : Nat} (h : k = c.stopAt) : evOf c k = some c.ea := if_pos h
theorem evOf_no {c : Cfg} {k : Nat} (h : ¬ k = c.stopAt) : evOf c k = none := if_neg h
theorem after17 (c : Cfg) (g : Good c) {D S : List Ent} {w wr : World} {k : Nat} (hm : Mem17 c k D w) (hr : R17 c w S wr) :
    wr.cell? ⟨c.bK, 0, none⟩ = some (.int .i64 k) ∧ wr.frozen? ⟨c.bK, 0, none⟩ = false ∧ (wr.setCell ⟨c.bK, 0, none⟩ (.int .i64 ((k : Int) + 1))).cell? ⟨c.bStop, 0, none⟩ = some (.int .i64 c.stopAt) ∧
      (wr.setCell ⟨c.bK, 0, none⟩ (.int .i64 ((k : Int) + 1))).cell? ⟨c.bSent, 0, none⟩ = some (.iface 115 (.pointer (some c.ea))) := by
  have h1 := hm.kv.kept hr.1 (by simp; exact ne_of_nodup g.nd (i := 2) (j := 11) (by decide) rfl rfl)
  have h2 := (hm.stop.kept hr.1 (by simp; exact ne_of_nodup g.nd (i := 7) (j := 11) (by decide) rfl rfl)).kept (grown_set wr c.bK 0 (.int .i64 ((k : Int) + 1))) (by simp; exact ne_of_nodup g.nd (i := 7) (j := 2) (by decide) rfl rfl)
  have h3 := (hm.sent.kept hr.1 (by simp; exact ne_of_nodup g.nd (i := 8) (j := 11) (by decide) rfl rfl)).kept (grown_set wr c.bK 0 (.int .i64 ((k : Int) + 1))) (by simp; exact ne_of_nodup g.nd (i := 8) (j := 2) (by decide) rfl rfl)
  exact ⟨h1.cell 0, h1.free 0, h2.cell 0, h3.cell 0⟩

set_option maxRecDepth 100000 in
set_option maxHeartbeats 1000000 in
theorem clo_any (c : Cfg) (g : Good c) (B : Nat) (D bt : List Ent) (R : List Ent) (n : Nat) (w : World) (hm : Mem17 c (D.length / 256) D w) (hl : lk w c.lb false n n)
    (hk : w.ownsRow B 9 1 (.slice (some ⟨B, 0, none⟩) bt.length 256) bt.length (bt.map kv)) (hv : w.ownsRow B 25 1 (.slice (some ⟨B + 1, 0, none⟩) bt.length 256) bt.length (bt.map vv))
    (hp : (D ++ bt ++ R).Perm (effs [] c.L)) (hR : bt.length = 256 ∨ R = []) (hD : D.length % 256 = 0) (h0 : 0 < bt.length) (h256 : bt.length ≤ 256) (hB : ∀ b ∈ c.blocks, b < B) :
    Calls Yba.prog 17 #[.slice (some ⟨B, 0, none⟩) bt.length 256, .slice (some ⟨B + 1, 0, none⟩) bt.length 256, ptr c.bLk, ptr c.bGood, ptr c.bK, ptr c.bCalls, ptr c.bCount, ptr c.bM, ptr c.bSeen, ptr c.bStop, ptr c.bSent] w fun e w' =>
      ∃ w1, R17 c w (D ++ bt) w1 ∧ w' = w1.setCell ⟨c.bK, 0, none⟩ (.int .i64 (D.length / 256 + 1 : Nat)) ∧
        e = .returned (errV (evOf c (D.length / 256))) := by
  have hlen := hp.length_eq
  rw [effs_full g.full, g.len, List.length_append, List.length_append] at hlen
  have hcnt := g.cnt
  have hci := g.callsIs
  have hsl := g.stopLe
  have hdiv : D.length / 256 < c.calls := by omega
  have cLk : w.cell? ⟨c.bLk, 0, none⟩ = some (.pointer (some ⟨c.lb, 0, none⟩)) := hm.lkv.cell 0
  have cK : w.cell? ⟨c.bK, 0, none⟩ = some (.int .i64 (D.length / 256 : Nat)) := hm.kv.cell 0
  have cCalls : w.cell? ⟨c.bCalls, 0, none⟩ = some (.int .i64 c.calls) := hm.calls.cell 0
  have cCount : w.cell? ⟨c.bCount, 0, none⟩ = some (.int .i64 c.count) := hm.count.cell 0
  have cHeld : w.cell? ⟨c.lb, 0, none⟩ = some (.bool false) := hl.cell 0
  generalize hkk : D.length / 256 = kk at *
  have hkd : D.length = 256 * kk := by omega
  have Hm := hide hm
  have Hk := hide hk
  have Hv := hide hv
  have Hp := hide hp
  have hcl3 : c.calls ≤ 3 := by omega
  have hnc : ¬ c.calls ≤ kk := by omega
  have hcase : (((kk : Int) == (c.calls : Int) - 1) = true ∧ ((bt.length : Int) != (c.count : Int) - 256 * ((c.calls : Int) - 1)) = false) ∨ (((kk : Int) == (c.calls : Int) - 1) = false ∧ ((bt.length : Int) != 256) = false) := by
    by_cases hlast : kk + 1 = c.calls
    · left
      refine ⟨beq_iff_eq.2 (by omega), bne_eq_false_iff_eq.2 ?_⟩
      rcases hR with h | h
      · omega
      · subst h; simp at hlen; omega
    · right
      refine ⟨beq_eq_false_iff_ne.2 (by omega), bne_eq_false_iff_eq.2 ?_⟩
      rcases hR with h | h
      · omega
      · subst h; simp at hlen; omega
  clear hm hl hk hv hp hlen hci hkk hkd hD
  unfold ptr
  rcases hcase with ⟨hq1, hq2⟩ | ⟨hq1, hq2⟩
  all_goals
    go_enter Yba.func17, Yba.ntmps17
    go_wp2_with fail
    clear hq1 hq2
    go_loopw [51] (fun i wr => ∃ j : Nat, j ≤ bt.length ∧ i = .int .i64 j ∧ R17 c w (D ++ bt.take j) wr) (fun i _ => bt.length - (intOf i).toNat)
    case atStart => exact ⟨0, Nat.zero_le _, rfl, World.grownBy.refl _ _, rfl, by simpa using Hm.out.seen⟩
    case round =>
      obtain ⟨j, hj, rfl, hr⟩ := hrel
      by_cases hlt : j < bt.length
      · obtain ⟨s, a, w2, e1, e2, e3, e4, e5, e6, e7, hr2⟩ := round17 c g Hm.out Hk.out Hv.out Hp.out hB hlt hr
        have Hr2 := hide hr2
        have hlti : (j : Int) < (bt.length : Int) := by omega
        clear hr hr2 cLk cK cCalls cCount cHeld
        go_wp2
        go_roundw
        case rel => exact ⟨j + 1, by omega, by go_num, Hr2.out⟩
        case measure => simp [intOf]; omega
      · have hje : j = bt.length := by omega
        subst hje
        rw [List.take_length] at hr
        obtain ⟨r1, r2, r3, r4⟩ := after17 c g Hm.out hr
        have Hr := hide hr
        clear hr cLk cK cCalls cCount cHeld
        by_cases hst : kk = c.stopAt
        · have hst' : ((kk : Int) == (c.stopAt : Int)) = true := beq_iff_eq.2 (by omega)
          have Hst := hide hst
          clear hst
          go_wp2
          go_ret
          refine ⟨wr, Hr.out, rfl, ?_⟩
          rw [evOf_yes Hst.out]; rfl
        · have hst' : ((kk : Int) == (c.stopAt : Int)) = false := beq_eq_false_iff_ne.2 (by omega)
          go_wp2
          go_ret
          refine ⟨wr, Hr.out, rfl, ?_⟩
          rw [evOf_no hst]; rfl

/-! ### The law's side of walkSnapshot -/
theorem Mem17.after {c : Cfg} (g : Good c) {k : Nat} {D S : List Ent} {w w1 : World} (h : Mem17 c k D w) (hr : R17 c w S w1) :
    Mem17 c (k + 1) S (w1.setCell ⟨c.bK, 0, none⟩ (.int .i64 (k + 1 : Nat))) := by
  have hg := hr.1
  have hg2 := grown_set w1 c.bK 0 (.int .i64 (k + 1 : Nat))
  have K : ∀ {b t cs}, row w b t cs → b ≠ c.sb → b ≠ c.bK → row (w1.setCell ⟨c.bK, 0, none⟩ (.int .i64 (k + 1 : Nat))) b t cs := fun h h1 h2 => (h.kept hg (by simp; exact h1)).kept hg2 (by simp; exact h2)
  have N : ∀ {i j a b : Nat}, c.blocks[i]? = some a → c.blocks[j]? = some b → i ≠ j → a ≠ b := fun h1 h2 h3 => ne_of_nodup g.nd h3 h1 h2
  refine ⟨K h.lkv (N (i := 0) (j := 11) rfl rfl (by decide)) (N (i := 0) (j := 2) rfl rfl (by decide)), K h.good (N (i := 1) (j := 11) rfl rfl (by decide)) (N (i := 1) (j := 2) rfl rfl (by decide)), ?_,
    K h.calls (N (i := 3) (j := 11) rfl rfl (by decide)) (N (i := 3) (j := 2) rfl rfl (by decide)), K h.count (N (i := 4) (j := 11) rfl rfl (by decide)) (N (i := 4) (j := 2) rfl rfl (by decide)),
    K h.mv (N (i := 5) (j := 11) rfl rfl (by decide)) (N (i := 5) (j := 2) rfl rfl (by decide)), ?_, K h.seenv (N (i := 6) (j := 11) rfl rfl (by decide)) (N (i := 6) (j := 2) rfl rfl (by decide)), ?_,
    K h.stop (N (i := 7) (j := 11) rfl rfl (by decide)) (N (i := 7) (j := 2) rfl rfl (by decide)), K h.sent (N (i := 8) (j := 11) rfl rfl (by decide)) (N (i := 8) (j := 2) rfl rfl (by decide))⟩
  · exact (h.kv.kept hg (by simp; exact N (i := 2) (j := 11) rfl rfl (by decide))).set 0 _
  · exact smap_kept (smap_kept h.map hg (by simp; exact N (i := 10) (j := 11) rfl rfl (by decide))) hg2 (by simp; exact N (i := 10) (j := 2) rfl rfl (by decide))
  · exact smap_kept hr.2.2 hg2 (by simp; exact N (i := 11) (j := 2) rfl rfl (by decide))

/-- The law's invariant between two calls of fn. -/
structure IB (c : Cfg) (W : World) (ev : Option Addr) (D : List Ent) (w : World) : Prop where
  mem : Mem17 c ((D.length + 255) / 256) D w
  le : D.length ≤ c.count
  below : Below W.heap.size W w
  go : ev = none → (D.length + 255) / 256 ≤ c.stopAt
  end_ : ∀ a, ev = some a → a = c.ea ∧ (D.length + 255) / 256 = c.stopAt + 1

theorem client (c : Cfg) (g : Good c) (W : World) (B : Nat) (hB : ∀ b ∈ c.blocks, b < B) (hW : W.heap.size ≤ c.lb) (hWB : W.heap.size ≤ B) : Client (IB c W) B c.lb c.mb c.L [] (.map none) := by
  have N : ∀ {i a : Nat}, c.blocks[i]? = some a → i ≠ 9 → a ≠ c.lb := fun h1 h3 => ne_of_nodup (j := 9) g.nd h3 h1 rfl
  refine ⟨fun h => h.mem.map, fun {ev D w} h s => ?_, fun {ev D w w'} h st => ?_⟩
  · exact run_lookup_nil Yba.underlying24 Yba.underlying9 (zero_ptr w) s true
  · have R : ∀ {i b t cs}, c.blocks[i]? = some b → i ≠ 9 → row w b t cs → row w' b t cs := fun {i b t cs} h1 h2 hr =>
      (st.block b hr.lt (N h1 h2) (fun h => by have := hB b (List.mem_of_getElem? h1); omega)).trans hr
    have S : ∀ {i b M}, c.blocks[i]? = some b → i ≠ 9 → smap w b M → smap w' b M := fun {i b M} h1 h2 hr => by
      unfold smap at *
      rw [st.block b (Array.getElem?_eq_some_iff.1 hr).1 (N h1 h2) (fun h => by have := hB b (List.mem_of_getElem? h1); omega)]; exact hr
    have m := h.mem
    refine ⟨⟨R (i := 0) rfl (by decide) m.lkv, R (i := 1) rfl (by decide) m.good, R (i := 2) rfl (by decide) m.kv, R (i := 3) rfl (by decide) m.calls, R (i := 4) rfl (by decide) m.count, R (i := 5) rfl (by decide) m.mv,
      S (i := 10) rfl (by decide) m.map, R (i := 6) rfl (by decide) m.seenv, S (i := 11) rfl (by decide) m.seen, R (i := 7) rfl (by decide) m.stop, R (i := 8) rfl (by decide) m.sent⟩, h.le, ?_, h.go, h.end_⟩
    have b := h.below
    exact ⟨st.os.trans b.os, st.tape.trans b.tape, st.output.trans b.output, Nat.le_trans b.size st.size, fun k hk => (st.block k (by have := b.size; omega) (by omega) (by omega)).trans (b.block k hk)⟩

theorem fn_ok (c : Cfg) (g : Good c) (W : World) (B : Nat) (hB : ∀ b ∈ c.blocks, b < B) (hW : ∀ b ∈ c.blocks, W.heap.size ≤ b) : FnOk (IB c W) B c.lb c.L [] 17 c.caps := by
  intro D bt n w hI hl hk hv hR hD h0 h256 hsz
  obtain ⟨R, hp, hR⟩ := hR
  have hq : (D.length + 255) / 256 = D.length / 256 := by omega
  have hm := hI.mem
  rw [hq] at hm
  have hgo := hI.go rfl
  rw [hq] at hgo
  have hlen := hp.length_eq
  rw [effs_full g.full, g.len, List.length_append, List.length_append] at hlen
  have hsb : c.sb < B := hB _ (by simp [Cfg.blocks])
  have hbK : c.bK < B := hB _ (by simp [Cfg.blocks])
  have hWs : W.heap.size ≤ c.sb := hW _ (by simp [Cfg.blocks])
  have hWk : W.heap.size ≤ c.bK := hW _ (by simp [Cfg.blocks])
  have hq2 : ((D ++ bt).length + 255) / 256 = D.length / 256 + 1 := by rw [List.length_append]; omega
  refine (clo_any c g B D bt R n w hm hl hk hv hp hR hD h0 h256 hB).mono ?_
  rintro e w' ⟨w1, hr, rfl, rfl⟩
  have hg2 := grown_set w1 c.bK 0 (.int .i64 (D.length / 256 + 1 : Nat))
  have hkept : ∀ k, k < w.heap.size → k ≠ c.sb → k ≠ c.bK → (w1.setCell ⟨c.bK, 0, none⟩ (.int .i64 (D.length / 256 + 1 : Nat))).heap[k]? = w.heap[k]? := fun k h1 h2 h3 =>
    (hg2.block k (Nat.lt_of_lt_of_le h1 hr.1.size) (by simp; exact h3)).trans (hr.1.block k h1 (by simp; exact h2))
  refine ⟨evOf c (D.length / 256), rfl, ⟨by rw [hq2]; exact hm.after g hr, by rw [List.length_append]; omega, ?_, ?_, ?_⟩, ?_, ?_, ?_⟩
  · have b := hI.below
    exact (b.grown hr.1 b.size (fun k hk => by cases hk; exact hWs)).grown hg2 (Nat.le_trans b.size hr.1.size) (fun k hk => by cases hk; exact hWk)
  · intro hev
    rw [hq2]
    have : ¬ D.length / 256 = c.stopAt := by
      intro h
      rw [evOf_yes h] at hev
      cases hev
    omega
  · intro a hev
    by_cases h : D.length / 256 = c.stopAt
    · rw [evOf_yes h] at hev
      cases hev
      exact ⟨rfl, by rw [hq2, h]⟩
    · rw [evOf_no h] at hev
      cases hev
  · exact hkept _ hl.lt (ne_of_nodup (i := 9) (j := 11) g.nd (by decide) rfl rfl) (ne_of_nodup (i := 9) (j := 2) g.nd (by decide) rfl rfl)
  · intro k h1 h2
    exact hkept k (by omega) (by omega) (by omega)
  · exact Nat.le_trans hr.1.size hg2.size
end Go.Proofs.Ybulksmu.Bat
