import Derived.Test.YbulksmuCont
import Derived.Lib.Bytealg
import Derived.Sort.Grow
import Derived.Sort.Statements
import Derived.LaidEql
namespace Go.Proofs.Ybulksmu.Cmp
open Go.RowKit Go.Proofs.Ybulksmu.Mem Go.Proofs.Ybulksmu.Lock Go.Proofs.Ybulksmu.Snap Go.Proofs.Ybulksmu.Cont
open Go.Sort (grow alloc_eq_grow grow_grow)

/-! ### The order of keys -/
theorem cb_self (a : List UInt8) : Lib.compareBytes a a = 0 := by
  induction a with
  | nil => rfl
  | cons x r ih => simp [Lib.compareBytes, ih]
theorem cb_swap (a : List UInt8) : ∀ b, (Lib.compareBytes a b < 0 ↔ 0 < Lib.compareBytes b a) ∧ (Lib.compareBytes a b = 0 ↔ a = b) := by
  induction a with
  | nil =>
    intro b
    cases b <;> simp [Lib.compareBytes]
  | cons x r ih =>
    intro b
    cases b with
    | nil => simp [Lib.compareBytes]
    | cons y s =>
      have h := ih s
      simp only [Lib.compareBytes]
      by_cases h1 : x < y
      · have h2 : ¬ y < x := by simp only [UInt8.lt_iff_toNat_lt] at *; omega
        have h3 : ¬ x = y := by rintro rfl; exact h2 h1
        simp [h1, h2, h3]
      · by_cases h2 : y < x
        · have h3 : ¬ x = y := by rintro rfl; exact h1 h2
          simp [h1, h2, h3]
        · have h3 : x = y := by
            apply UInt8.toNat_inj.1
            simp only [UInt8.lt_iff_toNat_lt] at *
            omega
          subst h3
          simp [h1, h.1, h.2]
theorem cb_trans (a : List UInt8) : ∀ b c, Lib.compareBytes a b < 0 → Lib.compareBytes b c < 0 → Lib.compareBytes a c < 0 := by
  induction a with
  | nil =>
    intro b c h1 h2
    cases b with
    | nil => simp [Lib.compareBytes] at h1
    | cons y s =>
      cases c with
      | nil => simp [Lib.compareBytes] at h2
      | cons z t => simp [Lib.compareBytes]
  | cons x r ih =>
    intro b c h1 h2
    cases b with
    | nil => simp [Lib.compareBytes] at h1
    | cons y s =>
      cases c with
      | nil => simp [Lib.compareBytes] at h2
      | cons z t =>
        simp only [Lib.compareBytes] at h1 h2 ⊢
        simp only [UInt8.lt_iff_toNat_lt] at h1 h2 ⊢
        by_cases a1 : x.toNat < y.toNat
        · by_cases a2 : y.toNat < z.toNat
          · rw [if_pos (by omega)]; omega
          · rw [if_neg a2] at h2
            by_cases a3 : z.toNat < y.toNat
            · rw [if_pos a3] at h2; omega
            · rw [if_pos (by omega)]; omega
        · rw [if_neg a1] at h1
          by_cases a3 : y.toNat < x.toNat
          · rw [if_pos a3] at h1; omega
          · rw [if_neg a3] at h1
            by_cases a2 : y.toNat < z.toNat
            · rw [if_pos (by omega)]; omega
            · rw [if_neg a2] at h2
              by_cases a4 : z.toNat < y.toNat
              · rw [if_pos a4] at h2; omega
              · rw [if_neg a4] at h2
                rw [if_neg (by omega), if_neg (by omega)]
                exact ih s t h1 h2

/-- What the law sorts by. -/
def cf (x y : Ent) : Int := Lib.compareBytes x.1.data.toList y.1.data.toList
def ltE (x y : Ent) : Bool := decide (cf x y < 0)
theorem ltE_swo : Sort.SWO ltE where
  irrefl x := by simp [ltE, cf, cb_self]
  trans x y z h1 h2 := by
    simp only [ltE, decide_eq_true_eq] at *
    exact cb_trans _ _ _ h1 h2
  ntrans x y z h1 h2 := by
    simp only [ltE, decide_eq_false_iff_not] at *
    intro h
    have a := cb_swap x.1.data.toList y.1.data.toList
    have b := cb_swap y.1.data.toList z.1.data.toList
    unfold cf at h1 h2 h
    by_cases e1 : Lib.compareBytes x.1.data.toList y.1.data.toList = 0
    · rw [a.2.1 e1] at h
      exact h2 h
    · have c1 : Lib.compareBytes y.1.data.toList x.1.data.toList < 0 := (cb_swap _ _).1.2 (by omega)
      have := cb_trans _ _ _ c1 h
      exact h2 this
theorem cf_zero {x y : Ent} (h : cf x y = 0) : x.1 = y.1 := by
  have := (cb_swap x.1.data.toList y.1.data.toList).2.1 h
  obtain ⟨⟨a⟩, p⟩ := x
  obtain ⟨⟨b⟩, q⟩ := y
  simp only [ByteArray.mk.injEq]
  exact Array.toList_inj.1 this

/-- Two sorted lists of the same entries, no key twice, are one. -/
theorem sorted_eq : ∀ (a b : List Ent), a.Pairwise (fun x y => ltE y x = false) → b.Pairwise (fun x y => ltE y x = false) → a.Perm b → (a.map (·.1)).Nodup → a = b := by
  intro a
  induction a with
  | nil => intro b _ _ hp _; exact (List.nil_perm.1 hp).symm
  | cons x r ih =>
    intro b ha hb hp hn
    cases b with
    | nil => exact absurd hp.symm (by simp)
    | cons y s =>
      have hx : x ∈ y :: s := hp.mem_iff.1 (by simp)
      have hy : y ∈ x :: r := hp.mem_iff.2 (by simp)
      rw [List.pairwise_cons] at ha hb
      have hxy : x = y := by
        rcases List.mem_cons.1 hx with h | h
        · exact h
        · rcases List.mem_cons.1 hy with h' | h'
          · exact h'.symm
          · have h1 := hb.1 x h
            have h2 := ha.1 y h'
            simp only [ltE, decide_eq_false_iff_not] at h1 h2
            have a1 := cb_swap y.1.data.toList x.1.data.toList
            have e : cf x y = 0 := by unfold cf at *; omega
            have e' := cf_zero e
            rw [List.map_cons, List.nodup_cons] at hn
            exact absurd (List.mem_map.2 ⟨y, h', e'.symm⟩) hn.1
      subst hxy
      rw [List.map_cons, List.nodup_cons] at hn
      rw [ih s ha.2 hb.2 (List.perm_cons x |>.1 hp) hn.2]

/-! ### The comparator -/
set_option maxHeartbeats 1000000 in
set_option maxRecDepth 100000 in
theorem cmpString_any (a b : ByteArray) (w : World) :
    Calls Yba.prog 23 #[.string a, .string b] w fun e w' => e = .returned (.int .i64 (Lib.compareBytes a.data.toList b.data.toList)) ∧ w' = w := by
  go_enter Yba.func23, Yba.ntmps23
  go_wp2
  rw [run_callFunc_extern Yba.func33 (by kernel_rfl) (by kernel_rfl) (by kernel_rfl) (e := Extern.BytealgCompare.compare) (by kernel_rfl), Lib.run_compareString]
  simp only [Result.andThen]
  rw [Oper.upon_value]
  go_wp2
  go_ret
  exact ⟨rfl, rfl⟩
set_option maxHeartbeats 1000000 in
theorem compare_any (a b : ByteArray) (w : World) :
    Calls Yba.prog 11 #[.string a, .string b] w fun e w' => e = .returned (.int .i64 (Lib.compareBytes a.data.toList b.data.toList)) ∧ w' = w := by
  go_enter Yba.func11, Yba.ntmps11
  go_wp2_with fail
  refine (cmpString_any _ _ _).mono ?_
  rintro e w' ⟨rfl, rfl⟩
  go_wp2
  go_ret
  exact ⟨rfl, rfl⟩
/-- An entry's two cells. -/
def encE (x : Ent) : List Value := [.string x.1, .pointer (some x.2)]
set_option maxHeartbeats 1000000 in
theorem cmp_any (x y : Ent) (W : World) : Calls Yba.prog 10 #[.agg #[.string x.1, .pointer (some x.2)], .agg #[.string y.1, .pointer (some y.2)]] W fun e w' => e = .returned (.int .i64 (cf x y)) ∧ ∃ q os', w' = grow (W.drewN q) os' := by
  have hcon := fun W' => compare_any x.1 y.1 W'
  unfold cf
  generalize Lib.compareBytes x.1.data.toList y.1.data.toList = r at hcon ⊢
  go_enter Yba.func10, Yba.ntmps10
  go_wp2_with fail
  refine (hcon _).mono ?_
  rintro e w' ⟨rfl, rfl⟩
  go_wp2
  go_ret
  exact ⟨rfl, 0, _, by rw [alloc_eq_grow, alloc_eq_grow, grow_grow]; rfl⟩
end Go.Proofs.Ybulksmu.Cmp
