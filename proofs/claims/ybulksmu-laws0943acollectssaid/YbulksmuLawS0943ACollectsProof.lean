import Derived.Test.YbulksmuRows
import Derived.Test.YbulksmuColMain
import Derived.WalkKit
import Derived.ProofKit
import Derived.OpenShut
import Derived.ShutString
import Derived.SliceStrings
import Derived.ChangeSlices
import Derived.ChangeOld
namespace Go.Proofs.Ybulksmu.lawS0943ACollects
open Go.ChangeShapes Go.WideShapes Go.ChangeAt Go.RowKit
open Go.Proofs.Ybulksmu.ColMain
set_option linter.unusedVariables false

theorem own : ownKnob Yba.prog.godebug = none := by kernel_rfl
theorem laidOut : laidOutB Yba.prog = true := by kernel_rfl
theorem cells9 : Yba.prog.cellsOf 9 = 1 := by kernel_rfl
theorem cells26 : Yba.prog.cellsOf 26 = 1 := by kernel_rfl

/-- A slice of strings that came in: its elements. -/
theorem strs_of {H : Type} {enc : TypeId × Value → H} {w : World} {base : Nat} {spare : Nat → Bool} {held : Bool} {fuel : Nat} {x : DataW H × List MemPlace} {a : Option Addr} {len cap : Nat}
    (h : DataW.trod enc Yba.prog w base spare held fuel 22 [.slice a len cap] = some x) : ∃ K : List ByteArray, K.length = len ∧ K.length ≤ cap ∧ StrsA w a K := by
  rcases open_strings Yba.underlying22 Yba.underlying9 cells9 h with ⟨hcs, _⟩ | ⟨x, l, c, ss, hcs, _, hl, hm, hlen, _, hc, _⟩
  · simp at hcs
    obtain ⟨rfl, rfl, rfl⟩ := hcs
    exact ⟨[], rfl, Nat.le_refl _, fun i s hi => by simp at hi⟩
  · simp at hcs
    obtain ⟨rfl, rfl, rfl⟩ := hcs
    have hle : len ≤ ss.length := by rw [hlen]; split <;> omega
    refine ⟨ss.take len, by rw [List.length_take]; omega, by rw [List.length_take]; omega, fun i s hi => ?_⟩
    have hil : i < len := by have := (List.getElem?_eq_some_iff.1 hi).1; rw [List.length_take] at this; omega
    rw [List.getElem?_take, if_pos hil] at hi
    have e := hc i (by omega)
    have z := hc 0 (by omega)
    rw [List.getD_eq_getElem?_getD, hi] at e
    obtain ⟨b, off, spot⟩ := x
    have hspot : spot = none := by simpa [Addr.add] using World.cell?_spot z
    subst hspot
    rw [Addr.add_lit] at e
    exact ⟨b, off, rfl, World.block_lt_of_cell? w _ e, e⟩
/-- A slice of int8 that came in: its elements. -/
theorem ints_of {H : Type} {enc : TypeId × Value → H} {w : World} {base : Nat} {spare : Nat → Bool} {held : Bool} {fuel : Nat} {x : DataW H × List MemPlace} {a : Option Addr} {len cap : Nat}
    (h : DataW.trod enc Yba.prog w base spare held fuel 23 [.slice a len cap] = some x) : ∃ K : List Int, K.length = len ∧ IntsA w a K := by
  rcases open_ints Yba.underlying23 Yba.underlying26 cells26 h with ⟨hcs, _⟩ | ⟨x, l, c, ss, hcs, _, hl, hm, hlen, _, hc, _⟩
  · simp at hcs
    obtain ⟨rfl, rfl, rfl⟩ := hcs
    exact ⟨[], rfl, fun i s hi => by simp at hi⟩
  · simp at hcs
    obtain ⟨rfl, rfl, rfl⟩ := hcs
    have hle : len ≤ ss.length := by rw [hlen]; split <;> omega
    refine ⟨ss.take len, by rw [List.length_take]; omega, fun i s hi => ?_⟩
    have hil : i < len := by have := (List.getElem?_eq_some_iff.1 hi).1; rw [List.length_take] at this; omega
    rw [List.getElem?_take, if_pos hil] at hi
    have e := hc i (by omega)
    have z := hc 0 (by omega)
    rw [List.getD_eq_getElem?_getD, hi] at e
    obtain ⟨b, off, spot⟩ := x
    have hspot : spot = none := by simpa [Addr.add] using World.cell?_spot z
    subst hspot
    rw [Addr.add_lit] at e
    exact ⟨b, off, rfl, World.block_lt_of_cell? w _ e, e⟩

theorem walk (ka va sa ta : Option Addr) (kc vc sc tc : Nat) (K S : List ByteArray) (V T : List Int) (w : World) (hKc : K.length ≤ kc)
    (aK : StrsA w ka K) (aS : StrsA w sa S) (aV : IntsA w va V) (aT : IntsA w ta T) :
    Calls Yba.prog 3 #[.slice ka K.length kc, .slice va V.length vc, .slice sa S.length sc, .slice ta T.length tc] w fun e w' => e = .returned (.bool true) ∧ Below w.heap.size w w' := by
  by_cases h1 : 1024 < K.length
  · exact small_one ka va sa ta _ kc _ vc _ sc _ tc w h1
  by_cases h2 : 1024 < S.length
  · exact small_two ka va sa ta _ kc _ vc _ sc _ tc w (by omega) h2
  exact main ka va sa ta kc vc sc tc K S V T w (by omega) (by omega) hKc aK aS aV aT

set_option maxRecDepth 100000 in
theorem lifted (os : Os) (started : os.Started) (H : Type) (enc : TypeId × Value → H) :
    ReturnsInHanded {} Yba.checked os 3 .any (Rows.lawS0943ACollectsSpec.pre6 enc Yba.prog Yba.f3 Rows.lawS0943ACollectsRow.domain false) (Rows.lawS0943ACollectsSpec.post enc Yba.prog Yba.f3 false true false false) := by
  refine returnsInHanded_of_change (C := Yba.checked) own started (by kernel_rfl) Yba.func3
    (ChangeSpec.witness6 (enc := enc) (C := Yba.checked) false ⟨#[], #[.slice none 0 0, .slice none 0 0, .slice none 0 0, .slice none 0 0], []⟩ 8 (by kernel_rfl) (by kernel_rfl) (by kernel_rfl) (by kernel_rfl)) ?_
  intro W base args ds gs before hval0 hW hcnd _
  have hval : ∀ (j : Nat) t v, Yba.f3.params[j]? = some t → args[j]? = some v → Value.okWide Yba.prog W .any base t v := hval0
  have hW' := hW
  obtain ⟨p, q, hA0, hV, rfl, hfz, hnd⟩ := hW
  have hA : DataW.TrodAll enc Yba.prog W 0 (fun _ => true) true Yba.f3.params.toList args.toList ds p := hA0
  rw [Yba.params3] at hA hval
  obtain ⟨v0, vs0, d0, ds0, p0, q0, hargs, rfl, rfl, h0, r0⟩ := trodAll_cons hA
  obtain ⟨v1, vs1, d1, ds1, p1, q1, rfl, rfl, rfl, h1, r1⟩ := trodAll_cons r0
  obtain ⟨v2, vs2, d2, ds2, p2, q2, rfl, rfl, rfl, h2, r2⟩ := trodAll_cons r1
  obtain ⟨v3, vs3, d3, ds3, p3, q3, rfl, rfl, rfl, h3, r3⟩ := trodAll_cons r2
  obtain ⟨rfl, rfl, rfl⟩ := trodAll_nil r3
  obtain rfl : args = #[v0, v1, v2, v3] := by cases args; simp_all
  obtain ⟨rfl, rfl⟩ := trodVars_none hV
  obtain ⟨a0, len0, cap0, rfl⟩ := okWide_slice Yba.underlying22 (hval 0 22 v0 rfl rfl)
  obtain ⟨a1, len1, cap1, rfl⟩ := okWide_slice Yba.underlying23 (hval 1 23 v1 rfl rfl)
  obtain ⟨a2, len2, cap2, rfl⟩ := okWide_slice Yba.underlying22 (hval 2 22 v2 rfl rfl)
  obtain ⟨a3, len3, cap3, rfl⟩ := okWide_slice Yba.underlying23 (hval 3 23 v3 rfl rfl)
  have k0 := h0
  have k1 := h1
  have k2 := h2
  have k3 := h3
  have lt0 : ∀ x ∈ p0, x.block < W.heap.size := by obtain ⟨m, hm⟩ := k0; exact DataW.trod_lt m _ _ _ hm
  have lt1 : ∀ x ∈ p1, x.block < W.heap.size := by obtain ⟨m, hm⟩ := k1; exact DataW.trod_lt m _ _ _ hm
  have lt2 : ∀ x ∈ p2, x.block < W.heap.size := by obtain ⟨m, hm⟩ := k2; exact DataW.trod_lt m _ _ _ hm
  have lt3 : ∀ x ∈ p3, x.block < W.heap.size := by obtain ⟨m, hm⟩ := k3; exact DataW.trod_lt m _ _ _ hm
  obtain ⟨K, rfl, hKc, aK⟩ : ∃ K : List ByteArray, K.length = len0 ∧ K.length ≤ cap0 ∧ StrsA W a0 K := by obtain ⟨fuel, hf⟩ := h0; exact strs_of hf
  obtain ⟨V, rfl, aV⟩ : ∃ K : List Int, K.length = len1 ∧ IntsA W a1 K := by obtain ⟨fuel, hf⟩ := h1; exact ints_of hf
  obtain ⟨S, rfl, _, aS⟩ : ∃ K : List ByteArray, K.length = len2 ∧ K.length ≤ cap2 ∧ StrsA W a2 K := by obtain ⟨fuel, hf⟩ := h2; exact strs_of hf
  obtain ⟨T, rfl, aT⟩ : ∃ K : List Int, K.length = len3 ∧ IntsA W a3 K := by obtain ⟨fuel, hf⟩ := h3; exact ints_of hf
  clear hA0 hval0
  refine (walk a0 a1 a2 a3 cap0 cap1 cap2 cap3 K S V T W hKc aK aS aV aT).mono fun e W' ⟨he, bel⟩ => ?_
  subst he
  exact ⟨_, rfl, _, _, _, [], _, [], hW', trodAll_mk1 (shut_bool Yba.underlying4 _), (trodAll_cons_mk (Below.trod laidOut (by kernel_rfl) (of_decide_eq_true (by kernel_rfl)) k0 bel lt0) (trodAll_cons_mk (Below.trod laidOut (by kernel_rfl) (of_decide_eq_true (by kernel_rfl)) k1 bel lt1) (trodAll_cons_mk (Below.trod laidOut (by kernel_rfl) (of_decide_eq_true (by kernel_rfl)) k2 bel lt2) (trodAll_cons_mk (Below.trod laidOut (by kernel_rfl) (of_decide_eq_true (by kernel_rfl)) k3 bel lt3) trodAll_mk0)))), rfl, bel.frame _, fun h => by cases h⟩

theorem over : Rows.lawS0943ACollectsRow.holds Yba.pinned (OpenSpec.ofChange Rows.lawS0943ACollectsSpec) :=
  OpenClaim.holds_of_wide 3 Yba.f3 rfl rfl rfl rfl rfl rfl rfl ⟨rfl, rfl, rfl, rfl, rfl⟩ rfl rfl rfl rfl rfl (by kernel_rfl) Yba.func3 (by kernel_rfl)
    (of_decide_eq_true (by kernel_rfl)) (by unfold Func.isWrapper; first | (rw [if_pos (by decide +kernel)]; kernel_rfl) | (rw [if_neg (by decide +kernel)]; exact ⟨rfl, rfl⟩))
    (fun os started H enc _ => lifted os started H enc)
end Go.Proofs.Ybulksmu.lawS0943ACollects
namespace Go.Proofs.Ybulksmu
theorem collects_proved : Rows.LawS0943ACollectsSaid := lawS0943ACollects.over
end Go.Proofs.Ybulksmu
