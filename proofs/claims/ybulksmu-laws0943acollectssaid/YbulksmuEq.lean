import Derived.Test.YbulksmuCmp
namespace Go.Proofs.Ybulksmu.Eqf
open Go.RowKit Go.Proofs.Ybulksmu.Mem Go.Proofs.Ybulksmu.Lock Go.Proofs.Ybulksmu.Snap Go.Proofs.Ybulksmu.Cont Go.Proofs.Ybulksmu.Cmp

theorem run_equalIn_ptr_same {P : Program} (w : World) (d : Nat) {tp te : TypeId} {j : TypeInfo} (a : Addr) (hp : P.underlying tp = some (.pointer te)) (hte : P.info? te = some j) :
    (Op.equalIn (d + 1) tp (.pointer (some a)) (.pointer (some a))).run P w = .ok true w := by
  simp [Op.equalIn, run_underlying hp, typeInfo, sizeOf, run_sameAddr_same, hte]
theorem info3 : (Yba.prog.info? 3).map (fun i => (i.zero, i.size, i.bytes)) = some (some (.int .i64 0), 1, 8) := by kernel_rfl
theorem eql_ptr (a : Addr) (w : World) : (binOp .eql 25 (.pointer (some a)) (.pointer (some a))).run Yba.prog w = .ok (.bool true) w := by
  obtain ⟨i, hi, _⟩ := info_parts info3
  simp only [binOp]
  simp [Op.equal, Op.maxDepth, run_equalIn_ptr_same w 9999 a Yba.underlying25 hi]
attribute [local go_sem] eql_ptr

set_option maxHeartbeats 1000000 in
theorem same_any (x : Ent) (W : World) : Calls Yba.prog 14 #[.agg #[.string x.1, .pointer (some x.2)], .agg #[.string x.1, .pointer (some x.2)]] W fun e w' => e = .returned (.bool true) ∧ Below W.heap.size W w' := by
  go_enter Yba.func14, Yba.ntmps14
  go_wp2
  go_ret
  exact ⟨rfl, ((Below.refl _ _).alloc (Nat.le_refl _) _).alloc (by simp) _⟩

/-- The slice holds these entries. -/
def Ents (w : World) (B : Nat) (ao : Option Addr) (D : List Ent) : Prop :=
  ∀ i e, D[i]? = some e → ∃ b off, ao = some ⟨b, off, none⟩ ∧ b < B ∧ w.cell? ⟨b, off + i * 2, none⟩ = some (.string e.1) ∧ w.cell? ⟨b, off + i * 2 + 1, none⟩ = some (.pointer (some e.2))

set_option maxRecDepth 100000 in
set_option maxHeartbeats 1000000 in
theorem equal_any (a1 a2 : Option Addr) (c1 c2 : Nat) (D : List Ent) (w : World) (h1 : Ents w w.heap.size a1 D) (h2 : Ents w w.heap.size a2 D) (hn : D.length ≤ 100000) {n1 n2 : Nat} (e1 : D.length = n1) (e2 : D.length = n2) :
    Calls Yba.prog 13 #[.slice a1 n1 c1, .slice a2 n2 c2, .func (.func 14) #[] #[]] w fun e w' => e = .returned (.bool true) ∧ Below w.heap.size w w' := by
  subst e1
  subst e2
  go_enter Yba.func13, Yba.ntmps13
  go_wp2_with fail
  go_loopw [17] (fun i wr => ∃ j : Nat, j ≤ D.length ∧ i = .int .i64 j ∧ Below w.heap.size w wr) (fun i _ => D.length - (intOf i).toNat)
  case atStart => exact ⟨0, Nat.zero_le _, rfl, Below.refl _ _⟩
  case round =>
    obtain ⟨j, hj, rfl, hb⟩ := hrel
    have hsz := hb.size
    by_cases hlt : j < D.length
    · obtain ⟨e, he⟩ : ∃ e, D[j]? = some e := ⟨_, List.getElem?_eq_getElem hlt⟩
      obtain ⟨b1, o1, rfl, hb1, c11, c12⟩ := h1 j e he
      obtain ⟨b2, o2, rfl, hb2, c21, c22⟩ := h2 j e he
      have hlti : (j : Int) < (D.length : Int) := by omega
      have k11 : wr.cell? ⟨b1, o1 + j * 2, none⟩ = some (.string e.1) := (hb.cell (by exact hb1)).trans c11
      have k12 : wr.cell? ⟨b1, o1 + j * 2 + 1, none⟩ = some (.pointer (some e.2)) := (hb.cell (by exact hb1)).trans c12
      have k21 : wr.cell? ⟨b2, o2 + j * 2, none⟩ = some (.string e.1) := (hb.cell (by exact hb2)).trans c21
      have k22 : wr.cell? ⟨b2, o2 + j * 2 + 1, none⟩ = some (.pointer (some e.2)) := (hb.cell (by exact hb2)).trans c22
      have m21 : (wr.alloc (.cells #[.string e.1, .pointer (some e.2)] 31)).cell? ⟨b2, o2 + j * 2, none⟩ = some (.string e.1) := (World.grownBy_alloc wr _ none).cell k21 (by simp)
      have m22 : (wr.alloc (.cells #[.string e.1, .pointer (some e.2)] 31)).cell? ⟨b2, o2 + j * 2 + 1, none⟩ = some (.pointer (some e.2)) := (World.grownBy_alloc wr _ none).cell k22 (by simp)
      have Hb := hide hb
      clear hb c11 c12 c21 c22 h1 h2 he k21 k22
      go_wp2_with fail
      refine (same_any e _).mono ?_
      rintro r w2 ⟨rfl, hb2'⟩
      have hb3 : Below w.heap.size w w2 := ((Hb.out.alloc hsz _).alloc (by simp; omega) _).trans (hb2'.mono (by simp; omega))
      have Hb3 := hide hb3
      clear hb2' hb3 m21 m22 k11 k12
      go_wp2
      go_roundw
      case rel => exact ⟨j + 1, by omega, by go_num, Hb3.out⟩
      case measure => simp [intOf]; omega
    · go_wp2
      go_ret
      exact ⟨rfl, hb⟩
end Go.Proofs.Ybulksmu.Eqf
