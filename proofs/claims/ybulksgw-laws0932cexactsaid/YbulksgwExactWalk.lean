import Derived.Test.YbulksgwPts
import Derived.BigQuiet
import Derived.WalkSmall
import Derived.Deep.QuietTactic
namespace Go.Proofs.Ybulksgw.Exw
open Go.ChangeShapes Go.WideShapes Go.ChangeAt Go.RowKit
open Go.Proofs.Ybulksgw.Pts

theorem small_one (ao : Option Addr) (len cap : Nat) (s c o : Int) (w : World) (hn : 1024 < len) :
    Calls Yba.prog 5 #[.slice ao len cap, .int .u64 s, .int .i64 c, .int .i32 o] w fun e w' => e = .returned (.bool true) ∧ Below w.heap.size w w' := by
  have h : (1024 : Int) < (len : Int) := by omega
  go_enter Yba.func5, Yba.ntmps5
  go_wp2
  go_ret
  exact ⟨rfl, Below.refl _ _⟩
theorem small_two (ao : Option Addr) (len cap : Nat) (s c o : Int) (w : World) (hn : len ≤ 1024) (hc : 1024 < c) :
    Calls Yba.prog 5 #[.slice ao len cap, .int .u64 s, .int .i64 c, .int .i32 o] w fun e w' => e = .returned (.bool true) ∧ Below w.heap.size w w' := by
  have h : (len : Int) ≤ 1024 := by omega
  go_enter Yba.func5, Yba.ntmps5
  go_wp2
  go_ret
  exact ⟨rfl, Below.refl _ _⟩

/-- What a call's own row of points gives: its value's shape, and its cells. -/
theorem row_shape {w : World} {base n : Nat} {v : Value} {xs : List Value} (h : w.ownsRow base 30 2 v n xs) :
    ∃ ao cap, v = .slice ao n cap ∧ (0 < n → ∃ g, base ≤ g ∧ g < w.heap.size ∧ ao = some ⟨g, 0, none⟩) := by
  rcases h.2 with ⟨rfl, rfl⟩ | ⟨g, cap, cur, rfl, hb, hg, _⟩
  · exact ⟨none, 0, rfl, fun h => by omega⟩
  · exact ⟨_, cap, rfl, fun _ => ⟨g, hb, (Array.getElem?_eq_some_iff.1 hg).1, rfl⟩⟩


theorem got_pre {w : World} {base g N cap len : Nat} {ys zs : List Value} {P O : Nat → Int} (hown : w.ownsRow base 30 2 (.slice (some ⟨g, 0, none⟩) N cap) N (ys ++ zs)) (hs : Same P O len ys) {k : Nat} (hk : k < len) (hN : len ≤ N) :
    w.cell? ⟨g, k * 2, none⟩ = some (.int .u64 (P k)) ∧ w.cell? ⟨g, k * 2 + 1, none⟩ = some (.int .i32 (O k)) := by
  have h := hs k hk
  have l0 : k * 2 < ys.length := (List.getElem?_eq_some_iff.1 h.1).1
  have l1 : k * 2 + 1 < ys.length := (List.getElem?_eq_some_iff.1 h.2).1
  refine ⟨?_, ?_⟩
  · rw [hown.cellAt _ (by omega), List.getElem?_append_left l0]; exact h.1
  · rw [hown.cellAt _ (by omega), List.getElem?_append_left l1]; exact h.2

theorem got_pre' {w : World} {base g cap len : Nat} {ys : List Value} {P O : Nat → Int} (hown : w.ownsRow base 30 2 (.slice (some ⟨g, 0, none⟩) len cap) len ys) (hs : Same P O len ys) {k : Nat} (hk : k < len) :
    w.cell? ⟨g, k * 2, none⟩ = some (.int .u64 (P k)) ∧ w.cell? ⟨g, k * 2 + 1, none⟩ = some (.int .i32 (O k)) :=
  got_pre (zs := []) (by simpa using hown) hs hk (Nat.le_refl _)
theorem pts_at (s o : Int) (m : Nat) : ∀ k, k < m → (pts s o m)[k * 2]? = some (.int .u64 (mix (sd s (k + 1)))) ∧ (pts s o m)[k * 2 + 1]? = some (.int .i32 o) := by
  induction m with
  | zero => intro k hk; omega
  | succ m ih =>
    intro k hk
    have hl := pts_length s o m
    by_cases e : k = m
    · subst e
      simp only [pts]
      rw [List.getElem?_append_right (by omega), List.getElem?_append_right (by omega), hl, show k * 2 - 2 * k = 0 by omega, show k * 2 + 1 - 2 * k = 1 by omega]
      exact ⟨rfl, rfl⟩
    · have := ih k (by omega)
      simp only [pts]
      rw [List.getElem?_append_left (by omega), List.getElem?_append_left (by omega)]
      exact this
theorem got_post {w : World} {base g cap len m : Nat} {ys : List Value} {s o : Int} (hown : w.ownsRow base 30 2 (.slice (some ⟨g, 0, none⟩) (len + m) cap) (len + m) (ys ++ pts s o m)) (hl : ys.length = len * 2) {k : Nat} (hk : k < m) :
    w.cell? ⟨g, (len + k) * 2, none⟩ = some (.int .u64 (mix (sd s (k + 1)))) ∧ w.cell? ⟨g, (len + k) * 2 + 1, none⟩ = some (.int .i32 o) := by
  have h := pts_at s o m k hk
  refine ⟨?_, ?_⟩
  · rw [hown.cellAt _ (by omega), List.getElem?_append_right (by omega), hl, show (len + k) * 2 - len * 2 = k * 2 by omega]; exact h.1
  · rw [hown.cellAt _ (by omega), List.getElem?_append_right (by omega), hl, show (len + k) * 2 + 1 - len * 2 = k * 2 + 1 by omega]; exact h.2

theorem mix_at (z z' : Int) (w : World) (h : z = z') : Calls Yba.prog 11 #[.int .u64 z] w fun e w' => e = .returned (.int .u64 (mix z')) ∧ w' = w := by
  subst h; exact mix_any z w
theorem wrap_u64 (n : Int) : IntKind.u64.wrap n = n % 18446744073709551616 := by
  simp [IntKind.wrap, IntKind.bits, IntKind.signed]
theorem sd_is (s : Int) (hs0 : 0 ≤ s) (hs1 : s < 18446744073709551616) (k : Nat) : sd s k = (s + (k : Int) * 11400714819323198485) % 18446744073709551616 := by
  induction k with
  | zero => simp only [sd]; omega
  | succ k ih =>
    simp only [sd, wrap_u64]
    rw [ih]
    omega

theorem sd_call (s : Int) (hs0 : 0 ≤ s) (hs1 : s < 18446744073709551616) (j : Nat) :
    IntKind.u64.wrap (s + IntKind.u64.wrap (((j : Int) + 1) * 11400714819323198485)) = sd s (j + 1) := by
  rw [sd_is s hs0 hs1, wrap_u64, wrap_u64]
  omega

set_option maxHeartbeats 800000 in
theorem main (ao : Option Addr) (len cap : Nat) (P O : Nat → Int) (s o : Int) (m : Nat) (w : World) (hn : len ≤ 1024) (hm : m ≤ 1024) (hs0 : 0 ≤ s) (hs1 : s < 18446744073709551616)
    (hcopy : Hid (Calls Yba.prog 10 #[.slice ao len cap] w fun e w' => ∃ v' ys, e = .returned v' ∧ w'.ownsRow w.heap.size 30 2 v' len ys ∧ Same P O len ys ∧ Below w.heap.size w w'))
    (harg : Hid (∀ i, i < len → ∃ b off, ao = some ⟨b, off, none⟩ ∧ b < w.heap.size ∧ w.cell? ⟨b, off + i * 2, none⟩ = some (.int .u64 (P i)) ∧ w.cell? ⟨b, off + i * 2 + 1, none⟩ = some (.int .i32 (O i)))) :
    Calls Yba.prog 5 #[.slice ao len cap, .int .u64 s, .int .i64 m, .int .i32 o] w fun e w' => e = .returned (.bool true) ∧ Below w.heap.size w w' := by
  have hn' : (len : Int) ≤ 1024 := by omega
  have hm' : (m : Int) ≤ 1024 := by omega
  go_enter Yba.func5, Yba.ntmps5
  go_wp2_with fail
  refine hcopy.out.mono ?_
  rintro e w1 ⟨v1, ys, rfl, hown1, hsame, hb1⟩
  have Hsame := hide hsame
  have hsz := hb1.size
  clear hsame
  go_wp2_with fail
  refine (append_any v1 len ys s m o _ w.heap.size hsz (by omega) (by omega) hown1).mono ?_
  rintro e w2 ⟨v2, rfl, hown2, hb2⟩
  simp only [Int.toNat_natCast] at hown2
  have hb : Below w.heap.size w w2 := hb1.trans hb2
  clear hb1 hb2 hown1 hsz
  obtain ⟨ao2, cap2, rfl, hao2⟩ := row_shape hown2
  have Hown2 := hide hown2
  have Hao2 := hide hao2
  have Hb := hide hb
  clear hown2 hao2 hb
  go_wp2_with fail
  go_loopw [11, 39] (fun _ i wr => ∃ k q : Nat, k ≤ len ∧ i = .int .i64 k ∧ wr = w2.drewN q) (fun _ i _ => len - (intOf i).toNat)
  case atStart => exact ⟨0, 0, Nat.zero_le _, rfl, rfl⟩
  case round =>
    obtain ⟨k, q, hk, rfl, rfl⟩ := hrel
    by_cases hlt : k < len
    · have hlti : (k : Int) < (len : Int) := by omega
      have hltN : (k : Int) < (len : Int) + (m : Int) := by omega
      obtain ⟨b, off, hao, hbw, h0, h1⟩ := harg.out k hlt
      obtain ⟨g, hg0, hg1, hao2⟩ := Hao2.out (by omega)
      subst hao
      subst hao2
      have e0 : w2.cell? ⟨b, off + k * 2, none⟩ = some (.int .u64 (P k)) := (Hb.out.cell (by exact hbw)).trans h0
      have e1 : w2.cell? ⟨b, off + k * 2 + 1, none⟩ = some (.int .i32 (O k)) := (Hb.out.cell (by exact hbw)).trans h1
      obtain ⟨f0, f1⟩ := got_pre Hown2.out Hsame.out hlt (by omega)
      clear h0 h1
      go_wp2_with fail
      go_quiet (fail)
      go_wp2
      go_roundw
      case rel => exact ⟨k + 1, q + nq, by omega, by go_num, rfl⟩
      case measure => simp [intOf]; omega
    · clear hcopy harg
      go_wp2_with fail
      go_loopw [12, 13] (fun i _ wr => ∃ k : Nat, k ≤ m ∧ i = .int .i64 k ∧ wr.ownsRow w.heap.size 30 2 (.slice ao2 (len + m) cap2) (len + m) (ys ++ pts s o m) ∧ Below w.heap.size w wr) (fun i _ _ => m - (intOf i).toNat)
      case atStart => exact ⟨0, Nat.zero_le _, rfl, Hown2.out, below_drewN Hb.out q⟩
      case round =>
        obtain ⟨j, hj, rfl, hown, hb⟩ := hrel
        have hsz := hb.size
        have hyl : ys.length = len * 2 := by have := hown.1; rw [List.length_append, pts_length] at this; omega
        have Hyl := hide hyl
        clear hyl
        by_cases hjm : j < m
        · have hjmi : (j : Int) < (m : Int) := by omega
          obtain ⟨g, hg0, hg1, hao2⟩ := Hao2.out (by omega)
          subst hao2
          obtain ⟨f0, f1⟩ := got_post hown Hyl.out hjm
          have Hown := hide hown
          have Hb3 := hide hb
          clear hown hb
          go_wp2_with fail
          go_quiet ((go_at_call 11; exact Calls.quiet_of_same (mix_at _ (sd s (j + 1)) _ (sd_call s hs0 hs1 j))))
          go_wp2
          go_roundw
          case rel => exact ⟨j + 1, by omega, by go_num, Hown.out.alloc _, below_drewN (Hb3.out.alloc hsz _) nq⟩
          case measure => simp [intOf]; omega
        · go_wp2
          go_ret
          exact ⟨rfl, hb⟩
set_option maxHeartbeats 800000 in
theorem main_neg (ao : Option Addr) (len cap : Nat) (P O : Nat → Int) (s o : Int) (c : Int) (w : World) (hn : len ≤ 1024) (hc : c < 0)
    (hcopy : Hid (Calls Yba.prog 10 #[.slice ao len cap] w fun e w' => ∃ v' ys, e = .returned v' ∧ w'.ownsRow w.heap.size 30 2 v' len ys ∧ Same P O len ys ∧ Below w.heap.size w w'))
    (harg : Hid (∀ i, i < len → ∃ b off, ao = some ⟨b, off, none⟩ ∧ b < w.heap.size ∧ w.cell? ⟨b, off + i * 2, none⟩ = some (.int .u64 (P i)) ∧ w.cell? ⟨b, off + i * 2 + 1, none⟩ = some (.int .i32 (O i)))) :
    Calls Yba.prog 5 #[.slice ao len cap, .int .u64 s, .int .i64 c, .int .i32 o] w fun e w' => e = .returned (.bool true) ∧ Below w.heap.size w w' := by
  have hn' : (len : Int) ≤ 1024 := by omega
  go_enter Yba.func5, Yba.ntmps5
  go_wp2_with fail
  refine hcopy.out.mono ?_
  rintro e w1 ⟨v1, ys, rfl, hown1, hsame, hb1⟩
  have Hsame := hide hsame
  have hsz := hb1.size
  clear hsame
  go_wp2_with fail
  refine (append_any v1 len ys s c o _ w.heap.size hsz (by omega) (by omega) hown1).mono ?_
  rintro e w2 ⟨v2, rfl, hown2, hb2⟩
  rw [show c.toNat = 0 by omega] at hown2
  simp only [pts, List.append_nil, Nat.add_zero] at hown2
  have hb : Below w.heap.size w w2 := hb1.trans hb2
  clear hb1 hb2 hown1 hsz
  obtain ⟨ao2, cap2, rfl, hao2⟩ := row_shape hown2
  have Hown2 := hide hown2
  have Hao2 := hide hao2
  have Hb := hide hb
  clear hown2 hao2 hb
  go_wp2_with fail
  go_loopw [11, 39] (fun _ i wr => ∃ k q : Nat, k ≤ len ∧ i = .int .i64 k ∧ wr = w2.drewN q) (fun _ i _ => len - (intOf i).toNat)
  case atStart => exact ⟨0, 0, Nat.zero_le _, rfl, rfl⟩
  case round =>
    obtain ⟨k, q, hk, rfl, rfl⟩ := hrel
    by_cases hlt : k < len
    · have hlti : (k : Int) < (len : Int) := by omega
      obtain ⟨b, off, hao, hbw, h0, h1⟩ := harg.out k hlt
      obtain ⟨g, hg0, hg1, hao2⟩ := Hao2.out (by omega)
      subst hao
      subst hao2
      have e0 : w2.cell? ⟨b, off + k * 2, none⟩ = some (.int .u64 (P k)) := (Hb.out.cell (by exact hbw)).trans h0
      have e1 : w2.cell? ⟨b, off + k * 2 + 1, none⟩ = some (.int .i32 (O k)) := (Hb.out.cell (by exact hbw)).trans h1
      obtain ⟨f0, f1⟩ := got_pre' Hown2.out Hsame.out hlt
      clear h0 h1
      go_wp2_with fail
      go_quiet (fail)
      go_wp2
      go_roundw
      case rel => exact ⟨k + 1, q + nq, by omega, by go_num, rfl⟩
      case measure => simp [intOf]; omega
    · clear hcopy harg
      go_wp2_with fail
      refine wp_loop_rounds 1 ?_
      rw [rounds_succ]
      go_wp2
      go_ret
      exact ⟨rfl, below_drewN Hb.out q⟩
end Go.Proofs.Ybulksgw.Exw
