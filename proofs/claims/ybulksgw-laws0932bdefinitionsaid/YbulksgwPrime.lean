import Derived.Test.YbulksgwRows
import Derived.WalkKit
import Derived.ProofKit
import Derived.OpenShut
import Derived.ShutString
namespace Go.Proofs.Ybulksgw.Prm
open Go.ChangeShapes Go.WideShapes Go.ChangeAt Go.RowKit

/-! ### The plain side: no Go in sight -/
/-- 'n is a prime by the definition'. -/
def IsP (n : Int) : Prop := 2 ≤ n ∧ ∀ d : Nat, 2 ≤ d → (d : Int) < n → ¬ n % (d : Int) = 0

/-- A number with no divisor d, 2 ≤ d < k, where n < k * k, is a prime. -/
theorem isP_of_root (n : Int) (k : Nat) (h2 : 2 ≤ n) (hd : ∀ d : Nat, 2 ≤ d → d < k → ¬ n % (d : Int) = 0) (hlt : n < (k : Int) * (k : Int)) : IsP n := by
  obtain ⟨m, rfl⟩ := Int.eq_ofNat_of_zero_le (show (0 : Int) ≤ n by omega)
  refine ⟨h2, fun d hd2 hdn h0 => ?_⟩
  have hm2 : 2 ≤ m := by omega
  have hdm : d < m := by omega
  have h0' : m % d = 0 := by
    have : ((m % d : Nat) : Int) = 0 := by rw [Int.natCast_emod]; exact h0
    omega
  have hlt' : m < k * k := by
    have : ((m : Nat) : Int) < ((k * k : Nat) : Int) := by rw [Int.natCast_mul]; exact hlt
    omega
  obtain ⟨c, hc⟩ := Nat.dvd_of_mod_eq_zero h0'
  by_cases hdk : d < k
  · exact hd d hd2 hdk h0
  · have hc2 : 2 ≤ c := by
      rcases c with _ | _ | c
      · simp at hc; omega
      · simp at hc; omega
      · omega
    have hck : c < k := by
      apply Nat.lt_of_not_le
      intro hkc
      have : k * k ≤ d * c := Nat.mul_le_mul (by omega) hkc
      omega
    refine hd c hc2 hck ?_
    have h1 : m % c = 0 := by rw [hc]; exact Nat.mul_mod_left d c
    rw [← Int.natCast_emod, h1]; rfl

theorem not_isP_small (n : Int) (h : n < 2) : ¬ IsP n := fun hp => by have := hp.1; omega

/-! ### The walks -/
/-- What both functions answer: a bool that says whether n is a prime. -/
def Ans (n : Int) (e : Ending) : Prop := ∃ b : Bool, e = .returned (.bool b) ∧ (b = true ↔ IsP n)
theorem hide {p : Prop} (h : p) : Hid p := h

set_option maxHeartbeats 400000 in
theorem isPrime_any (n : Int) (h : n ≤ 65536) (hl : -9223372036854775808 ≤ n) (w : World) :
    Calls Yba.prog 7 #[.int .i64 n] w fun e w' => Ans n e ∧ w' = w := by
  by_cases h2 : n < 2
  · go_enter Yba.func7, Yba.ntmps7
    go_wp2
    go_ret
    exact ⟨⟨false, rfl, by simp [not_isP_small n h2]⟩, rfl⟩
  · go_enter Yba.func7, Yba.ntmps7
    go_wp2
    go_loop [3] (fun i => ∃ k : Nat, 2 ≤ k ∧ k ≤ 257 ∧ i = .int .i64 k ∧ ∀ d : Nat, 2 ≤ d → d < k → ¬ n % (d : Int) = 0) (fun i => 257 - (intOf i).toNat)
    case atStart => exact ⟨2, by omega, by omega, rfl, fun d h1 h2 => by omega⟩
    case round =>
      obtain ⟨k, hk2, hk, rfl, hd0⟩ := hrel
      have Hd := hide hd0
      clear hd0
      have hb0 : (0 : Int) ≤ (k : Int) * (k : Int) := Int.mul_nonneg (by omega) (by omega)
      have hb1 : (k : Int) * (k : Int) ≤ 66049 := by
        have := Int.mul_le_mul (show (k : Int) ≤ 257 by omega) (show (k : Int) ≤ 257 by omega) (by omega) (by omega)
        omega
      by_cases hc : (k : Int) * (k : Int) ≤ n
      · have hk256 : k ≤ 256 := by
          apply Nat.le_of_not_lt
          intro hh
          have : (257 : Int) * 257 ≤ (k : Int) * (k : Int) := Int.mul_le_mul (by omega) (by omega) (by omega) (by omega)
          omega
        have hkn : (k : Int) < n := by
          have : (2 : Int) * (k : Int) ≤ (k : Int) * (k : Int) := Int.mul_le_mul (by omega) (by omega) (by omega) (by omega)
          omega
        by_cases hm : n % (k : Int) = 0
        · have Hm := hide hm
          have hm' : (n % (k : Int) == 0) = true := by simp [hm]
          clear hm
          go_wp2
          go_ret
          exact ⟨⟨false, rfl, by simp; exact fun hp => hp.2 k hk2 hkn Hm.out⟩, rfl⟩
        · have hm' : (n % (k : Int) == 0) = false := by simp [hm]
          have Hm := hide hm
          clear hm
          go_wp2
          go_round
          case rel => exact ⟨k + 1, by omega, by omega, by go_num, fun d h1 h2 => by
            by_cases e : d = k
            · subst e; exact Hm.out
            · exact Hd.out d h1 (by omega)⟩
          case measure => simp [intOf]; omega
      · go_wp2
        go_ret
        exact ⟨⟨true, rfl, by simp; exact isP_of_root n k (by omega) Hd.out (by omega)⟩, rfl⟩

set_option maxHeartbeats 400000 in
theorem naive_any (n : Int) (h : n ≤ 65536) (hl : -9223372036854775808 ≤ n) (w : World) :
    Calls Yba.prog 8 #[.int .i64 n] w fun e w' => Ans n e ∧ w' = w := by
  by_cases h2 : n < 2
  · go_enter Yba.func8, Yba.ntmps8
    go_wp2
    go_ret
    exact ⟨⟨false, rfl, by simp [not_isP_small n h2]⟩, rfl⟩
  · go_enter Yba.func8, Yba.ntmps8
    go_wp2
    go_loop [3] (fun i => ∃ k : Nat, 2 ≤ k ∧ (k : Int) ≤ n ∧ i = .int .i64 k ∧ ∀ d : Nat, 2 ≤ d → d < k → ¬ n % (d : Int) = 0) (fun i => n.toNat - (intOf i).toNat)
    case atStart => exact ⟨2, by omega, by omega, rfl, fun d h1 h2 => by omega⟩
    case round =>
      obtain ⟨k, hk2, hk, rfl, hd0⟩ := hrel
      have Hd := hide hd0
      clear hd0
      by_cases hc : (k : Int) < n
      · by_cases hm : n % (k : Int) = 0
        · have Hm := hide hm
          have hm' : (n % (k : Int) == 0) = true := by simp [hm]
          clear hm
          go_wp2
          go_ret
          exact ⟨⟨false, rfl, by simp; exact fun hp => hp.2 k hk2 hc Hm.out⟩, rfl⟩
        · have hm' : (n % (k : Int) == 0) = false := by simp [hm]
          have Hm := hide hm
          clear hm
          go_wp2
          go_round
          case rel => exact ⟨k + 1, by omega, by omega, by go_num, fun d h1 h2 => by
            by_cases e : d = k
            · subst e; exact Hm.out
            · exact Hd.out d h1 (by omega)⟩
          case measure => simp [intOf]; omega
      · go_wp2
        go_ret
        exact ⟨⟨true, rfl, by simp; exact ⟨by omega, fun d h1 h2 => Hd.out d h1 (by omega)⟩⟩, rfl⟩
end Go.Proofs.Ybulksgw.Prm
