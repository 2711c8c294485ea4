import Derived.Test.YbulksmuSnapWalk
import Derived.Deep.RegionWith
namespace Go.Proofs.Ybulksmu.Cont
open Go.RowKit Go.Proofs.Ybulksmu.Mem Go.Proofs.Ybulksmu.Lock Go.Proofs.Ybulksmu.Snap

/-- What a slice of strings holds: nothing, or a row of cells from some place on. -/
def Strs (w : World) (ao : Option Addr) (ss : List ByteArray) : Prop :=
  ∀ i s, ss[i]? = some s → ∃ b off, ao = some ⟨b, off, none⟩ ∧ w.cell? ⟨b, off + i, none⟩ = some (.string s)

/-- What slices.Index answers. -/
def Idx (ss : List ByteArray) (k : ByteArray) (e : Ending) : Prop := ∃ j : Int, e = .returned (.int .i64 j) ∧ -1 ≤ j ∧ (0 ≤ j ↔ k ∈ ss)

theorem bytes_ne {a b : ByteArray} (h : ¬ a = b) : (a.toList == b.toList) = false := by
  cases hb : a.toList == b.toList
  · rfl
  · exfalso
    apply h
    have e : a.toList = b.toList := by simpa using hb
    rw [ByteArray.toList_eq, ByteArray.toList_eq] at e
    cases a; cases b
    simp only [ByteArray.mk.injEq]
    exact Array.toList_inj.1 e

set_option maxRecDepth 100000 in
set_option maxHeartbeats 400000 in
theorem index_any (ao : Option Addr) (c : Nat) (ss : List ByteArray) (k : ByteArray) (w : World) (hs : Strs w ao ss) (hn : ss.length ≤ 100000) :
    Calls Yba.prog 22 #[.slice ao ss.length c, .string k] w fun e w' => Idx ss k e ∧ w' = w := by
  go_enter Yba.func22, Yba.ntmps22
  go_wp2_with fail
  go_loop [5, 8] (fun _ i => ∃ j : Nat, j ≤ ss.length ∧ i = .int .i64 j ∧ k ∉ ss.take j) (fun _ i => ss.length - (intOf i).toNat)
  case atStart => exact ⟨0, Nat.zero_le _, rfl, by simp⟩
  case round =>
    obtain ⟨j, hj, rfl, hnot⟩ := hrel
    have Hnot := hide hnot
    clear hnot
    by_cases hlt : j < ss.length
    · obtain ⟨s, hsj⟩ : ∃ s, ss[j]? = some s := ⟨_, List.getElem?_eq_getElem hlt⟩
      obtain ⟨b, off, rfl, hc⟩ := hs j s hsj
      have hlti : (j : Int) < (ss.length : Int) := by omega
      have Hsj := hide hsj
      clear hsj
      by_cases hk : k = s
      · subst hk
        go_wp2
        go_ret
        refine ⟨⟨j, rfl, by omega, ?_⟩, rfl⟩
        have := List.mem_of_getElem? Hsj.out
        simp [this]
      · have hk' := bytes_ne hk
        have Hk := hide hk
        clear hk
        go_wp2
        go_round
        case rel =>
          refine ⟨j + 1, by omega, by go_num, ?_⟩
          rw [List.take_add_one, Hsj.out]
          intro h
          rcases List.mem_append.1 h with h | h
          · exact Hnot.out h
          · simp at h; exact Hk.out h
        case measure => simp [intOf]; omega
    · go_wp2
      go_ret
      refine ⟨⟨-1, rfl, by omega, ?_⟩, rfl⟩
      have : ss.take j = ss := List.take_of_length_le (by omega)
      have h := Hnot.out
      rw [this] at h
      simp [h]

/-- What slices.Contains answers. -/
def Has (ss : List ByteArray) (k : ByteArray) (e : Ending) : Prop := ∃ b : Bool, e = .returned (.bool b) ∧ (b = true ↔ k ∈ ss)
set_option maxRecDepth 100000 in
theorem contains_any (ao : Option Addr) (c : Nat) (ss : List ByteArray) (k : ByteArray) (w : World) (hs : Strs w ao ss) (hn : ss.length ≤ 100000) {n : Nat} (hl : ss.length = n) :
    Calls Yba.prog 7 #[.slice ao n c, .string k] w fun e w' => Has ss k e ∧ w' = w := by
  subst hl
  go_enter Yba.func7, Yba.ntmps7
  go_wp2_with fail
  refine (index_any ao c ss k _ hs hn).mono ?_
  rintro e w' ⟨⟨j, rfl, hj, hjs⟩, rfl⟩
  have Hjs := hide hjs
  clear hjs
  go_wp2
  go_ret
  exact ⟨⟨decide (0 ≤ j), rfl, by rw [decide_eq_true_iff]; exact Hjs.out⟩, rfl⟩
end Go.Proofs.Ybulksmu.Cont
