import Derived.Test.YbulkshkFmtRows
import Derived.Test.YbulkshkFmtCards
import Derived.WalkKit
import Derived.ProofKit
import Derived.OpenShut
import Derived.Stop.CallBack
import Derived.Stop.IfaceNil
namespace Go.Proofs.YbulkshkFmt.Pct
open Go.RowKit Go.Extern.Stop Go.Stop Go.Extern

/-! ### The closed facts for the walk over fmt.errorf (function 7), the format "margin rate ..", its one operand of type int64 -/
theorem call7 (args : Array Value) (w : World) : (callFunc 7 args).run Ybaf.prog w = ((FmtStop.errorf #[9, 28] #[23] args).run Ybaf.prog w).andThen fun v w' => .ok (.value v) w' :=
  run_callFunc_extern Ybaf.func7 (by kernel_rfl) (by kernel_rfl) (by kernel_rfl) (by kernel_rfl) args w
theorem guard (name : String) (w : World) : (FmtStop.guard name).run Ybaf.prog w = .ok () w := by kernel_rfl
theorem fmt0 : FmtStop.printed? ⟨#[109, 97, 114, 103, 105, 110, 32, 114, 97, 116, 101, 32, 37, 100, 37, 37, 32, 105, 115, 32, 110, 111, 116, 32, 97, 32, 119, 104, 111, 108, 101, 32, 112, 101, 114, 99, 101, 110, 116, 32, 102, 114, 111, 109, 32, 49, 32, 116, 111, 32, 49, 48, 48]⟩ 1 = some [(0, 100, false)] := by kernel_rfl
theorem fmt0r (w : World) : (FmtDoors.printed ⟨#[109, 97, 114, 103, 105, 110, 32, 114, 97, 116, 101, 32, 37, 100, 37, 37, 32, 105, 115, 32, 110, 111, 116, 32, 97, 32, 119, 104, 111, 108, 101, 32, 112, 101, 114, 99, 101, 110, 116, 32, 102, 114, 111, 109, 32, 49, 32, 116, 111, 32, 49, 48, 48]⟩ 1).run Ybaf.prog w = .ok [(0, 100, false)] w := by kernel_rfl
def shape2 : List UInt8 := [5, 5, 0, 0, 0, 0, 0, 0, 0, 105, 110, 116, 54, 52]
theorem op2 (name : String) (x : Int) (w : World) : (FmtStop.operand name false 100 false (.iface 2 (.int .i64 x))).run Ybaf.prog w = .ok (shape2, Go.Extern.Stop.digits 8 (x % 2 ^ 64).toNat) w := by kernel_rfl
theorem op2w (name : String) (x : Int) (w : World) : (FmtStop.operand name true 100 false (.iface 2 (.int .i64 x))).run Ybaf.prog w = .ok (shape2, Go.Extern.Stop.digits 8 (x % 2 ^ 64).toNat) w := by kernel_rfl
theorem ptr31 (w : World) : (FmtStop.ptrTo "errors.errorString").run Ybaf.prog w = .ok 31 w := by kernel_rfl
theorem elem31 (w : World) : (elemOf 31).run Ybaf.prog w = .ok 33 w := by kernel_rfl
theorem isError31 (w : World) : (FmtDoors.textMethod 31 "Error").run Ybaf.prog w = .ok true w := by kernel_rfl
attribute [local go_sem] call7 guard fmt0 fmt0r op2 op2w ptr31 elem31 isError31

theorem check_yes (n : Int) (w : World) (h1 : 1 ≤ n) (h2 : n ≤ 100) :
    Calls Ybaf.prog 5 #[.int .i64 n] w fun e w' => e = .returned .nilIface ∧ w' = w := by
  go_enter Ybaf.func5, Ybaf.ntmps5
  go_wp2
  go_ret
  exact ⟨rfl, rfl⟩

/-- What the refusing way answers: an error that is not nil; what was there is as it was. -/
def No (w : World) (e : Ending) (w' : World) : Prop := ∃ a, e = .returned (.iface 31 (.pointer (some a))) ∧ Below w.heap.size w w'

theorem check_low (F : Interp) (n : Int) (w : World) (hF : F.answers w.tape) (h1 : n < 1) :
    Calls Ybaf.prog 5 #[.int .i64 n] w fun e w' => No w e w' := by
  have hF' := Go.Stop.Interp.answers_open hF
  go_enter Ybaf.func5, Ybaf.ntmps5
  go_wp2
  go_ret
  exact ⟨_, rfl, ((((Below.refl _ _).alloc (Nat.le_refl _) _).alloc (by simp) _)).drew⟩

theorem check_high (F : Interp) (n : Int) (w : World) (hF : F.answers w.tape) (h0 : 1 ≤ n) (h1 : 100 < n) :
    Calls Ybaf.prog 5 #[.int .i64 n] w fun e w' => No w e w' := by
  have hF' := Go.Stop.Interp.answers_open hF
  go_enter Ybaf.func5, Ybaf.ntmps5
  go_wp2
  go_ret
  exact ⟨_, rfl, ((((Below.refl _ _).alloc (Nat.le_refl _) _).alloc (by simp) _)).drew⟩

theorem check_no (F : Interp) (n : Int) (w : World) (hF : F.answers w.tape) (h : n < 1 ∨ 100 < n) :
    Calls Ybaf.prog 5 #[.int .i64 n] w fun e w' => No w e w' := by
  by_cases h1 : n < 1
  · exact check_low F n w hF h1
  · exact check_high F n w hF (by omega) (by omega)

theorem exact_walk (F : Interp) (n : Int) (w : World) (hF : F.answers w.tape) :
    Calls Ybaf.prog 3 #[.int .i64 n] w fun e w' => e = .returned (.bool true) ∧ Below w.heap.size w w' := by
  by_cases h1 : 1 ≤ n
  · by_cases h2 : n ≤ 100
    · go_enter Ybaf.func3, Ybaf.ntmps3
      go_wp2_with fail
      refine (check_yes n _ h1 h2).mono ?_
      rintro e w' ⟨rfl, rfl⟩
      go_wp2
      go_ret
      exact ⟨rfl, Below.refl _ _⟩
    · go_enter Ybaf.func3, Ybaf.ntmps3
      go_wp2_with fail
      refine (check_no F n _ hF (by omega)).mono ?_
      rintro e w' ⟨a, rfl, hb⟩
      go_wp2
      go_ret
      exact ⟨rfl, hb⟩
  · go_enter Ybaf.func3, Ybaf.ntmps3
    go_wp2_with fail
    refine (check_no F n _ hF (by omega)).mono ?_
    rintro e w' ⟨a, rfl, hb⟩
    go_wp2
    go_ret
    exact ⟨rfl, hb⟩

theorem answers_of {F : Interp} {B : Nat} {w w' : World} (hF : F.answers w.tape) (h : Below B w w') : F.answers w'.tape := by
  rw [h.tape]; exact hF

set_option maxHeartbeats 400000 in
theorem edges_walk (F : Interp) (x : Int) (w : World) (hF : F.answers w.tape) (h0 : 0 ≤ x) (h1 : x ≤ 255) :
    Calls Ybaf.prog 4 #[.int .u8 x] w fun e w' => e = .returned (.bool true) ∧ Below w.heap.size w w' := by
  go_enter Ybaf.func4, Ybaf.ntmps4
  go_wp2_with fail
  refine (check_yes _ _ (by omega) (by omega)).mono ?_
  rintro e w' ⟨rfl, rfl⟩
  go_wp2_with fail
  refine (check_yes _ _ (by omega) (by omega)).mono ?_
  rintro e w' ⟨rfl, rfl⟩
  go_wp2_with fail
  refine (check_yes _ _ (by omega) (by omega)).mono ?_
  rintro e w' ⟨rfl, rfl⟩
  go_wp2_with fail
  refine (check_no F _ _ hF (by omega)).mono ?_
  rintro e w1 ⟨a1, rfl, hb1⟩
  go_wp2_with fail
  refine (check_no F _ _ (answers_of hF hb1) (by omega)).mono ?_
  rintro e w2 ⟨a2, rfl, hb2⟩
  go_wp2_with fail
  refine (check_no F _ _ (answers_of hF (hb1.trans (hb2.mono hb1.size))) (by omega)).mono ?_
  rintro e w3 ⟨a3, rfl, hb3⟩
  go_wp2_with fail
  have hb12 := hb1.trans (hb2.mono hb1.size)
  have hb123 := hb12.trans (hb3.mono hb12.size)
  refine (check_no F _ _ (answers_of hF hb123) (by omega)).mono ?_
  rintro e w4 ⟨a4, rfl, hb4⟩
  have hb := hb123.trans (hb4.mono hb123.size)
  clear hb1 hb2 hb3 hb4 hb12 hb123 hF
  go_wp2
  go_ret
  exact ⟨rfl, hb⟩
end Go.Proofs.YbulkshkFmt.Pct
