import Derived.Test.YbulksgwRows
import Derived.WalkKit
import Derived.ProofKit
import Derived.OpenShut
namespace Go.Proofs.Ybulksgw.Pts
open Go.ChangeShapes Go.WideShapes Go.ChangeAt Go.RowKit

/-! ### The plain side -/
theorem hide {p : Prop} (h : p) : Hid p := h
/-- mix64, as the walk spells it. -/
def mix (z : Int) : Int :=
  bits BinOp.xor IntKind.u64
    (IntKind.u64.wrap
      (bits BinOp.xor IntKind.u64
          (IntKind.u64.wrap (bits BinOp.xor IntKind.u64 z (z / 1073741824) * 13787848793156543929))
          (IntKind.u64.wrap (bits BinOp.xor IntKind.u64 z (z / 1073741824) * 13787848793156543929) /
            134217728) *
        10723151780598845931))
    (IntKind.u64.wrap
        (bits BinOp.xor IntKind.u64
            (IntKind.u64.wrap
              (bits BinOp.xor IntKind.u64 z (z / 1073741824) * 13787848793156543929))
            (IntKind.u64.wrap
                (bits BinOp.xor IntKind.u64 z (z / 1073741824) * 13787848793156543929) /
              134217728) *
          10723151780598845931) /
      2147483648)
/-- The seed behind k steps. -/
def sd (s : Int) : Nat → Int
  | 0 => s
  | k + 1 => IntKind.u64.wrap (sd s k + 11400714819323198485)
/-- The cells of the first k points. -/
def pts (s o : Int) : Nat → List Value
  | 0 => []
  | k + 1 => pts s o k ++ [.int .u64 (mix (sd s (k + 1))), .int .i32 o]
theorem pts_length (s o : Int) (k : Nat) : (pts s o k).length = 2 * k := by
  induction k with
  | zero => rfl
  | succ k ih => simp [pts, ih]; omega

theorem Yba.info30 : (Yba.prog.info? 30).map (fun i => (i.zero, i.size, i.bytes)) = some (some (.agg #[.int .u64 0, .int .i32 0]), 2, 16) := by kernel_rfl

set_option maxHeartbeats 400000 in
theorem mix_any (z : Int) (w : World) :
    Calls Yba.prog 11 #[.int .u64 z] w fun e w' => e = .returned (.int .u64 (mix z)) ∧ w' = w := by
  go_enter Yba.func11, Yba.ntmps11
  go_wp2
  go_ret
  exact ⟨by simp only [mix]; rfl, rfl⟩

theorem app_step {w wr w1 : World} {base n k : Nat} {xs : List Value} {s o : Int} {v v' : Value} {ob : Obj} (hown : wr.ownsRow base 30 2 v (n + k) (xs ++ pts s o k)) (hb : Below base w wr) (hB : base ≤ w.heap.size)
    (hown' : w1.ownsRow base 30 2 v' (n + k + 1) (xs ++ (pts s o k ++ [.int .u64 (mix (sd s (k + 1))), .int .i32 o]))) (hg : (wr.alloc ob).grownBy w1 v.ownBlock) :
    w1.ownsRow base 30 2 v' (n + (k + 1)) (xs ++ pts s o (k + 1)) ∧ Below base w w1 := by
  have hsz := hb.size
  refine ⟨by simpa [pts, List.append_assoc, Nat.add_assoc] using hown', (hb.alloc (by omega) ob).grown hg (by simp; omega) fun k hk => (hown.lt k hk).1⟩

set_option maxHeartbeats 400000 in
theorem append_any (v : Value) (n : Nat) (xs : List Value) (s c o : Int) (w : World) (base : Nat) (hB : base ≤ w.heap.size) (hn : n ≤ 2000000) (hc : c ≤ 2000000)
    (hown : w.ownsRow base 30 2 v n xs) :
    Calls Yba.prog 9 #[v, .int .u64 s, .int .i64 c, .int .i32 o] w fun e w' => ∃ v', e = .returned v' ∧ w'.ownsRow base 30 2 v' (n + c.toNat) (xs ++ pts s o c.toNat) ∧ Below base w w' := by
  obtain ⟨i0, hi, hz0, hz1, hz2⟩ := info_parts Yba.info30
  go_enter Yba.func9, Yba.ntmps9
  go_wp2
  go_loopw [0, 1, 10] (fun v t i wr => ∃ k : Nat, k ≤ c.toNat ∧ i = .int .i64 k ∧ t = .int .u64 (sd s k) ∧ wr.ownsRow base 30 2 v (n + k) (xs ++ pts s o k) ∧ Below base w wr) (fun _ _ i _ => c.toNat - (intOf i).toNat)
  case atStart => exact ⟨0, Nat.zero_le _, rfl, rfl, by simpa [pts] using hown, Below.refl _ _⟩
  case round =>
    obtain ⟨k, hk, rfl, rfl, hownr, hb⟩ := hrel
    by_cases hlt : (k : Int) < c
    · go_wp2_with fail
      refine (mix_any _ _).mono ?_
      rintro e w' ⟨rfl, rfl⟩
      have hsz := hb.size
      go_wp2_with (at_builtin; refine wpList_append_own _ rfl _ _ 26 rfl base 30 i0 (.agg #[.int .u64 0, .int .i32 0]) 2 16 Yba.underlying26 hi hz0 hz1 hz2 rfl (by decide) _ _ _ rfl (hownr.alloc _) ⟨w'.heap.size, 0, none⟩ 1 1 [.int .u64 (mix (sd s (k + 1))), .int .i32 o] rfl rfl ?c1 ?c2 ?c3 ?c4 ?c5 ?_)
      case c1 =>
        intro j u hj
        match j, hj with
        | 0, hj => simp at hj; subst hj; simp [Addr.add, sd]
        | 1, hj => simp at hj; subst hj; simp [Addr.add]
      case c2 => intro u hu; simp at hu; rcases hu with rfl | rfl <;> rfl
      case c3 => unfold maxLen; omega
      case c4 => omega
      case c5 => simp; omega
      · intro v' w1 hown' hgrow _
        have R := app_step hownr hb hB hown' hgrow
        clear hown' hgrow hownr hb
        go_wp2
        go_roundw
        case rel => exact ⟨k + 1, by omega, by go_num, by simp only [sd], R.1, R.2⟩
        case measure => simp [intOf]; omega
    · have : k = c.toNat := by omega
      subst this
      go_wp2
      go_ret
      exact ⟨_, rfl, hownr, hb⟩

/-! ### zzs0932ccopy -/
/-- The first k elements of the row ys are the points P, O. -/
def Same (P O : Nat → Int) (k : Nat) (ys : List Value) : Prop := ∀ j, j < k → ys[j * 2]? = some (.int .u64 (P j)) ∧ ys[j * 2 + 1]? = some (.int .i32 (O j))

theorem copy_step {P O : Nat → Int} {k len B : Nat} {ys : List Value} {w wr : World} (hown : wr.ownsRow B 30 2 (.slice (some ⟨B, 0, none⟩) len len) len ys) (hs : Same P O k ys) (hb : Below B w wr) (hlt : k < len) :
    (((wr.setCell ⟨B, k * 2, none⟩ (.int .u64 (P k))).setCell ⟨B, k * 2 + 1, none⟩ (.int .i32 (O k))).drew).ownsRow B 30 2 (.slice (some ⟨B, 0, none⟩) len len) len ((ys.set (k * 2) (.int .u64 (P k))).set (k * 2 + 1) (.int .i32 (O k))) ∧
    Same P O (k + 1) ((ys.set (k * 2) (.int .u64 (P k))).set (k * 2 + 1) (.int .i32 (O k))) ∧
    Below B w (((wr.setCell ⟨B, k * 2, none⟩ (.int .u64 (P k))).setCell ⟨B, k * 2 + 1, none⟩ (.int .i32 (O k))).drew) := by
  have hyl : ys.length = len * 2 := hown.1
  refine ⟨((hown.stored (k * 2) _).1.stored (k * 2 + 1) _).1.drew, ?_, ((hb.setCell (by simp) _).setCell (by simp) _).drew⟩
  intro j hj
  by_cases e : j = k
  · subst e
    refine ⟨?_, ?_⟩
    · rw [List.getElem?_set_ne (by omega), List.getElem?_set_self (by omega)]
    · rw [List.getElem?_set_self (by simp; omega)]
  · have h := hs j (by omega)
    refine ⟨?_, ?_⟩
    · rw [List.getElem?_set_ne (by omega), List.getElem?_set_ne (by omega)]; exact h.1
    · rw [List.getElem?_set_ne (by omega), List.getElem?_set_ne (by omega)]; exact h.2

set_option maxHeartbeats 400000 in
theorem copy_any (b off len cap : Nat) (P O : Nat → Int) (w : World) (hbb : b < w.heap.size) (hn : len ≤ 2000000)
    (hc0 : ∀ i, i < len → w.cell? ⟨b, off + i * 2, none⟩ = some (.int .u64 (P i))) (hc1 : ∀ i, i < len → w.cell? ⟨b, off + i * 2 + 1, none⟩ = some (.int .i32 (O i))) :
    Calls Yba.prog 10 #[.slice (some ⟨b, off, none⟩) len cap] w fun e w' => ∃ v' ys, e = .returned v' ∧ w'.ownsRow w.heap.size 30 2 v' len ys ∧ Same P O len ys ∧ Below w.heap.size w w' := by
  obtain ⟨i0, hi, hz0, hz1, hz2⟩ := info_parts Yba.info30
  go_enter Yba.func10, Yba.ntmps10
  go_wp2_with (at_make; refine wpList_make_full _ rfl _ _ 26 rfl w.heap.size 30 i0 (.agg #[.int .u64 0, .int .i32 0]) 2 Yba.underlying26 hi hz0 hz1 _ _ _ _ len rfl rfl rfl rfl (by rw [hz2]; omega) (by unfold maxLen; omega) (Nat.le_refl _) ?_; intro w1 hown1 hgrow1)
  have hb1 : Below w.heap.size w w1 := (Below.refl _ _).grown hgrow1 (Nat.le_refl _) (fun k hk => by cases hk)
  generalize hys : (madeCells (Value.cells (.agg #[.int .u64 0, .int .i32 0])) (len * 2)).toList = ys0 at hown1
  clear hys hgrow1
  go_loopw [4, 10] (fun t i wr => ∃ k ys, k ≤ len ∧ i = .int .i64 (k : Nat) ∧ wr.ownsRow w.heap.size 30 2 (.slice (some ⟨w.heap.size, 0, none⟩) len len) len ys ∧ Same P O k ys ∧ Below w.heap.size w wr) (fun _ i _ => len - (intOf i).toNat)
  case atStart => exact ⟨0, ys0, Nat.zero_le _, rfl, hown1, fun j hj => by omega, hb1⟩
  case round =>
    obtain ⟨k, ys, hk, rfl, hown, hsame, hb⟩ := hrel
    by_cases hlt : k < len
    · have h0 : wr.cell? ⟨b, off + k * 2, none⟩ = some (.int .u64 (P k)) := (hb.cell (by exact hbb)).trans (hc0 k hlt)
      have h1 : wr.cell? ⟨b, off + k * 2 + 1, none⟩ = some (.int .i32 (O k)) := (hb.cell (by exact hbb)).trans (hc1 k hlt)
      have hlti : (k : Int) < (len : Int) := by omega
      have hf0 : wr.frozen? ⟨w.heap.size, k * 2, none⟩ = false := hown.frozenAt _
      have hf1 : wr.frozen? ⟨w.heap.size, k * 2 + 1, none⟩ = false := hown.frozenAt _
      have hyl : ys.length = len * 2 := hown.1
      obtain ⟨y0, hg0⟩ : ∃ y, wr.cell? ⟨w.heap.size, k * 2, none⟩ = some y := ⟨_, (hown.cellAt _ (by omega)).trans (List.getElem?_eq_getElem (by omega))⟩
      obtain ⟨y1, hg1⟩ : ∃ y, wr.cell? ⟨w.heap.size, k * 2 + 1, none⟩ = some y := ⟨_, (hown.cellAt _ (by omega)).trans (List.getElem?_eq_getElem (by omega))⟩
      clear hc0 hc1 hown1 hb1
      have Hown := hide hown
      have Hsame := hide hsame
      have Hb := hide hb
      have Hyl := hide hyl
      clear hown hsame hb hyl
      go_wp2
      go_region
      have R := copy_step Hown.out Hsame.out Hb.out hlt
      clear Hown Hsame Hb Hyl h0 h1 hf0 hf1 hg0 hg1
      go_wp2
      go_roundw
      case rel => exact ⟨k + 1, _, by omega, by go_num, R.1, R.2.1, R.2.2⟩
      case measure => simp [intOf]; omega
    · have : k = len := by omega
      subst this
      go_wp2
      go_ret
      exact ⟨_, ys, rfl, hown, hsame, hb⟩

set_option maxHeartbeats 400000 in
theorem copy_none (ao : Option Addr) (cap : Nat) (P O : Nat → Int) (w : World) :
    Calls Yba.prog 10 #[.slice ao 0 cap] w fun e w' => ∃ v' ys, e = .returned v' ∧ w'.ownsRow w.heap.size 30 2 v' 0 ys ∧ Same P O 0 ys ∧ Below w.heap.size w w' := by
  obtain ⟨i0, hi, hz0, hz1, hz2⟩ := info_parts Yba.info30
  go_enter Yba.func10, Yba.ntmps10
  go_wp2_with (at_make; refine wpList_make_full _ rfl _ _ 26 rfl w.heap.size 30 i0 (.agg #[.int .u64 0, .int .i32 0]) 2 Yba.underlying26 hi hz0 hz1 _ _ _ _ 0 rfl rfl rfl rfl (by rw [hz2]; omega) (by unfold maxLen; omega) (Nat.le_refl _) ?_; intro w1 hown1 hgrow1)
  have hb1 : Below w.heap.size w w1 := (Below.refl _ _).grown hgrow1 (Nat.le_refl _) (fun k hk => by cases hk)
  clear hgrow1
  refine wp_loop_rounds 1 ?_
  rw [rounds_succ]
  go_wp2
  go_ret
  exact ⟨_, _, rfl, hown1, fun j hj => by omega, hb1⟩
end Go.Proofs.Ybulksgw.Pts
