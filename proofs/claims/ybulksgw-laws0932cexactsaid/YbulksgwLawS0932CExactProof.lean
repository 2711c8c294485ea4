import Derived.Test.YbulksgwExactWalk
import Derived.ShutString
import Derived.ChangeOld
import Derived.Deep.SlicePairs
namespace Go.Proofs.Ybulksgw.lawS0932CExact
open Go.ChangeShapes Go.WideShapes Go.ChangeAt Go.RowKit
open Go.Proofs.Ybulksgw.Pts
set_option linter.unusedVariables false

theorem own : ownKnob Yba.prog.godebug = none := by kernel_rfl
theorem laidOut : laidOutB Yba.prog = true := by kernel_rfl

/-- What the walk is told of the slice of points that came in: its cells, where there are any. -/
def IsPts (w : World) (ao : Option Addr) (len : Nat) (P O : Nat → Int) : Prop :=
  ∀ i, i < len → ∃ b off, ao = some ⟨b, off, none⟩ ∧ b < w.heap.size ∧ w.cell? ⟨b, off + i * 2, none⟩ = some (.int .u64 (P i)) ∧ w.cell? ⟨b, off + i * 2 + 1, none⟩ = some (.int .i32 (O i))

theorem walk (ao : Option Addr) (len cap : Nat) (P O : Nat → Int) (s c o : Int) (w : World) (h : IsPts w ao len P O) (hs : (Lit.int .u64 s).wf = true) :
    Calls Yba.prog 5 #[.slice ao len cap, .int .u64 s, .int .i64 c, .int .i32 o] w fun e w' => e = .returned (.bool true) ∧ Below w.heap.size w w' := by
  by_cases h1 : 1024 < len
  · exact Exw.small_one ao len cap s c o w h1
  by_cases h2 : 1024 < c
  · exact Exw.small_two ao len cap s c o w (by omega) h2
  have hcopy : Calls Yba.prog 10 #[.slice ao len cap] w fun e w' => ∃ v' ys, e = .returned v' ∧ w'.ownsRow w.heap.size 30 2 v' len ys ∧ Same P O len ys ∧ Below w.heap.size w w' := by
    by_cases h0 : len = 0
    · subst h0
      exact copy_none ao cap P O w
    · obtain ⟨b, off, rfl, hb, _⟩ := h 0 (by omega)
      refine copy_any b off len cap P O w hb (by omega) ?_ ?_
      · intro i hi
        obtain ⟨b', off', e, _, g, _⟩ := h i hi
        simp only [Option.some.injEq, Addr.mk.injEq, and_true] at e
        obtain ⟨rfl, rfl⟩ := e
        exact g
      · intro i hi
        obtain ⟨b', off', e, _, _, g⟩ := h i hi
        simp only [Option.some.injEq, Addr.mk.injEq, and_true] at e
        obtain ⟨rfl, rfl⟩ := e
        exact g
  have bs := bounds_u64 hs
  by_cases h3 : c < 0
  · exact Exw.main_neg ao len cap P O s o c w (by omega) h3 (hide hcopy) (hide h)
  · obtain ⟨m, rfl⟩ := Int.eq_ofNat_of_zero_le (show 0 ≤ c by omega)
    exact Exw.main ao len cap P O s o m w (by omega) (by omega) bs.1 (by omega) (hide hcopy) (hide h)

set_option maxRecDepth 100000 in
theorem lifted (os : Os) (started : os.Started) (H : Type) (enc : TypeId × Value → H) :
    ReturnsInHanded {} Yba.checked os 5 .any (Rows.lawS0932CExactSpec.pre6 enc Yba.prog Yba.f5 Rows.lawS0932CExactRow.domain false) (Rows.lawS0932CExactSpec.post enc Yba.prog Yba.f5 false true false false) := by
  refine returnsInHanded_of_change (C := Yba.checked) own started (by kernel_rfl) Yba.func5
    (ChangeSpec.witness6 (enc := enc) (C := Yba.checked) false ⟨#[], #[.slice none 0 0, .int .u64 0, .int .i64 0, .int .i32 0], []⟩ 8 (by kernel_rfl) (by kernel_rfl) (by kernel_rfl) (by kernel_rfl)) ?_
  intro W base args ds gs before hval0 hW hcnd _
  have hval : ∀ (j : Nat) t v, Yba.f5.params[j]? = some t → args[j]? = some v → Value.okWide Yba.prog W .any base t v := hval0
  have hW' := hW
  obtain ⟨p, q, hA0, hV, rfl, hfz, hnd⟩ := hW
  have hA : DataW.TrodAll enc Yba.prog W 0 (fun _ => true) true Yba.f5.params.toList args.toList ds p := hA0
  rw [Yba.params5] at hA hval
  obtain ⟨v0, vs0, d0, ds0, p0, q0, hargs, rfl, rfl, h0, r0⟩ := trodAll_cons hA
  obtain ⟨v1, vs1, d1, ds1, p1, q1, rfl, rfl, rfl, h1, r1⟩ := trodAll_cons r0
  obtain ⟨v2, vs2, d2, ds2, p2, q2, rfl, rfl, rfl, h2, r2⟩ := trodAll_cons r1
  obtain ⟨v3, vs3, d3, ds3, p3, q3, rfl, rfl, rfl, h3, r3⟩ := trodAll_cons r2
  obtain ⟨rfl, rfl, rfl⟩ := trodAll_nil r3
  obtain rfl : args = #[v0, v1, v2, v3] := by cases args; simp_all
  obtain ⟨rfl, rfl⟩ := trodVars_none hV
  obtain ⟨a0, len0, cap0, rfl⟩ := okWide_slice Yba.underlying24 (hval 0 24 v0 rfl rfl)
  have k0 := h0
  have lt0 : ∀ x ∈ p0, x.block < W.heap.size := by obtain ⟨m, hm⟩ := k0; exact DataW.trod_lt m _ _ _ hm
  obtain ⟨P, O, w0⟩ : ∃ P O, IsPts W a0 len0 P O := by
    obtain ⟨fuel, hf⟩ := h0
    rcases Deep.open_slice_pairs Yba.underlying24 Yba.underlying32 (by kernel_rfl) rfl rfl (by kernel_rfl) (by kernel_rfl) hf with ⟨hcs, _⟩ | ⟨x, l, c, m, n, V0, V1, D0, D1, P0, P1, hcs, _, hl, hm, hmm, _, hc⟩
    · simp [Value.cells] at hcs
      obtain ⟨rfl, rfl, rfl⟩ := hcs
      exact ⟨fun _ => 0, fun _ => 0, fun i hi => by omega⟩
    · simp [Value.cells] at hcs
      obtain ⟨rfl, rfl, rfl⟩ := hcs
      simp at hmm
      refine ⟨fun i => intOf (V0 i), fun i => intOf (V1 i), fun i hi => ?_⟩
      obtain ⟨e0, e1, t0, t1⟩ := hc i (by omega)
      obtain ⟨z0, _, _, _⟩ := hc 0 (by omega)
      obtain ⟨b, off, spot⟩ := x
      have hspot : spot = none := by simpa [Addr.add] using World.cell?_spot z0
      subst hspot
      obtain ⟨n0, g0, _, _⟩ := DataW.trod_int Yba.underlying25 t0
      obtain ⟨n1, g1, _, _⟩ := DataW.trod_int Yba.underlying21 t1
      simp only [List.cons.injEq, and_true] at g0 g1
      rw [Addr.add_lit] at e0 e1
      refine ⟨b, off, rfl, World.block_lt_of_cell? W _ e0, ?_, ?_⟩
      · show _ = some (Value.int .u64 (intOf (V0 i))); rw [e0, g0]; rfl
      · show _ = some (Value.int .i32 (intOf (V1 i))); rw [Nat.add_assoc, e1, g1]; rfl
  obtain ⟨a1, rfl, rfl, rfl, w1⟩ := open_int Yba.underlying25 (hval 1 25 v1 rfl rfl) h1
  obtain ⟨a2, rfl, rfl, rfl, w2⟩ := open_int Yba.underlying3 (hval 2 3 v2 rfl rfl) h2
  obtain ⟨a3, rfl, rfl, rfl, w3⟩ := open_int Yba.underlying21 (hval 3 21 v3 rfl rfl) h3
  clear hA0 hval0
  refine (walk a0 len0 cap0 P O a1 a2 a3 W w0 w1).mono fun e W' ⟨he, bel⟩ => ?_
  subst he
  exact ⟨_, rfl, _, _, _, [], _, [], hW', trodAll_mk1 (shut_bool Yba.underlying4 _), (trodAll_cons_mk (Below.trod laidOut (by kernel_rfl) (of_decide_eq_true (by kernel_rfl)) k0 bel lt0) (trodAll_cons_mk (shut_int Yba.underlying25 w1) (trodAll_cons_mk (shut_int Yba.underlying3 w2) (trodAll_cons_mk (shut_int Yba.underlying21 w3) trodAll_mk0)))), rfl, bel.frame _, fun h => by cases h⟩

theorem over : Rows.lawS0932CExactRow.holds Yba.pinned (OpenSpec.ofChange Rows.lawS0932CExactSpec) :=
  OpenClaim.holds_of_wide 5 Yba.f5 rfl rfl rfl rfl rfl rfl rfl ⟨rfl, rfl, rfl, rfl, rfl⟩ rfl rfl rfl rfl rfl (by kernel_rfl) Yba.func5 (by kernel_rfl)
    (of_decide_eq_true (by kernel_rfl)) (by unfold Func.isWrapper; first | (rw [if_pos (by decide +kernel)]; kernel_rfl) | (rw [if_neg (by decide +kernel)]; exact ⟨rfl, rfl⟩))
    (fun os started H enc _ => lifted os started H enc)
end Go.Proofs.Ybulksgw.lawS0932CExact
namespace Go.Proofs.Ybulksgw
theorem exact_proved : Rows.LawS0932CExactSaid := lawS0932CExact.over
end Go.Proofs.Ybulksgw
