import Derived.Test.YbulksmuRows
import Derived.Test.YbulksmuMem
import Derived.OpenShut
import Derived.Laws.BytesArg
namespace Go.Proofs.Ybulksmu.Lock
open Go.RowKit Go.Proofs.Ybulksmu.Mem

/-- Block b of w holds these cells, of type t, none of them frozen. -/
def row (w : World) (b t : Nat) (cs : Array Value) : Prop := w.heap[b]? = some (.cells cs t (0, 0))
theorem row.cell {w : World} {b t : Nat} {cs : Array Value} (h : row w b t cs) (j : Nat) : w.cell? ⟨b, j, none⟩ = cs[j]? := cell_of_row w b j cs t (0, 0) h
theorem row.free {w : World} {b t : Nat} {cs : Array Value} (h : row w b t cs) (j : Nat) : w.frozen? ⟨b, j, none⟩ = false := frozen_of_row w b j cs t h
theorem row.set {w : World} {b t : Nat} {cs : Array Value} (h : row w b t cs) (j : Nat) (u : Value) : row (w.setCell ⟨b, j, none⟩ u) b t (cs.setIfInBounds j u) := heap_setCell_same w b j cs t u h
theorem row.lt {w : World} {b t : Nat} {cs : Array Value} (h : row w b t cs) : b < w.heap.size := (Array.getElem?_eq_some_iff.1 h).1
theorem row.kept {w w' : World} {b t : Nat} {cs : Array Value} {r : Option Nat} (h : row w b t cs) (hg : w.grownBy w' r) (hne : some b ≠ r) : row w' b t cs := (hg.block b h.lt hne).trans h
theorem row_new (w : World) (cs : Array Value) (t : Nat) : row (w.alloc (.cells cs t)) w.heap.size t cs := heap_alloc_new w _
theorem row.alloc {w : World} {b t : Nat} {cs : Array Value} (h : row w b t cs) (o : Obj) : row (w.alloc o) b t cs := h.kept (World.grownBy_alloc w o none) (by simp)
theorem grown_set (w : World) (b j : Nat) (u : Value) : w.grownBy (w.setCell ⟨b, j, none⟩ u) (some b) :=
  ⟨rfl, rfl, rfl, by simp, fun k _ hk => heap_setCell_other w ⟨b, j, none⟩ k u (fun e => hk (by simp [e]))⟩
theorem size_set (w : World) (a : Addr) (u : Value) : (w.setCell a u).heap.size = w.heap.size := by simp
theorem grown_trans {a b c : World} {r : Option Nat} (h : a.grownBy b r) (k : b.grownBy c r) : a.grownBy c r :=
  ⟨k.os.trans h.os, k.tape.trans h.tape, k.output.trans h.output, Nat.le_trans h.size k.size, fun i hi hne => (k.block i (Nat.lt_of_lt_of_le hi h.size) hne).trans (h.block i hi hne)⟩

/-- The lock of the two laws. -/
def lk (w : World) (b : Nat) (held : Bool) (n m : Nat) : Prop := row w b 34 #[.bool held, .bool false, .int .i64 n, .int .i64 m]

theorem lock_any (b n m : Nat) (w : World) (h : lk w b false n m) (hn : n ≤ 1000000) :
    Calls Yba.prog 107 #[.pointer (some ⟨b, 0, none⟩)] w fun e w' => e = .returned (.tuple #[]) ∧ lk w' b true (n + 1) m ∧ w.grownBy w' (some b) ∧ w'.heap.size = w.heap.size := by
  have c0 : w.cell? ⟨b, 0, none⟩ = some (.bool false) := h.cell 0
  have c2 : w.cell? ⟨b, 2, none⟩ = some (.int .i64 n) := h.cell 2
  have f0 : w.frozen? ⟨b, 0, none⟩ = false := h.free 0
  have f2 : w.frozen? ⟨b, 2, none⟩ = false := h.free 2
  have H := hide h
  clear h
  go_enter Yba.func107, Yba.ntmps107
  go_wp2
  go_end0
  refine ⟨rfl, ?_, grown_trans (grown_set w b 0 _) (grown_set _ b 2 _), by simp⟩
  have := (H.out.set 0 (.bool true)).set 2 (.int .i64 ((n + 1 : Nat) : Int))
  exact this

theorem unlock_any (b n m : Nat) (w : World) (h : lk w b true n m) (hn : m ≤ 1000000) :
    Calls Yba.prog 108 #[.pointer (some ⟨b, 0, none⟩)] w fun e w' => e = .returned (.tuple #[]) ∧ lk w' b false n (m + 1) ∧ w.grownBy w' (some b) ∧ w'.heap.size = w.heap.size := by
  have c0 : w.cell? ⟨b, 0, none⟩ = some (.bool true) := h.cell 0
  have c2 : w.cell? ⟨b, 3, none⟩ = some (.int .i64 m) := h.cell 3
  have f0 : w.frozen? ⟨b, 0, none⟩ = false := h.free 0
  have f2 : w.frozen? ⟨b, 3, none⟩ = false := h.free 3
  have H := hide h
  clear h
  go_enter Yba.func108, Yba.ntmps108
  go_wp2
  go_end0
  refine ⟨rfl, ?_, grown_trans (grown_set w b 0 _) (grown_set _ b 3 _), by simp⟩
  have := (H.out.set 0 (.bool false)).set 3 (.int .i64 ((m + 1 : Nat) : Int))
  exact this

/-- The i-th key. -/
def keyB (i : Nat) : ByteArray := ⟨#[UInt8.ofNat (97 + i % 26), UInt8.ofNat (97 + i / 26 % 26), UInt8.ofNat (97 + i / 676 % 26)]⟩
theorem keyB_inj {i j : Nat} (hi : i < 17576) (hj : j < 17576) (h : keyB i = keyB j) : i = j := by
  unfold keyB at h
  simp only [ByteArray.mk.injEq, Array.mk.injEq, List.cons.injEq, and_true] at h
  obtain ⟨h1, h2, h3⟩ := h
  have g : ∀ a b : Nat, a < 26 → b < 26 → UInt8.ofNat (97 + a) = UInt8.ofNat (97 + b) → a = b := by
    intro a b ha hb e
    have := congrArg UInt8.toNat e
    simp at this
    omega
  have e1 := g _ _ (Nat.mod_lt _ (by omega)) (Nat.mod_lt _ (by omega)) h1
  have e2 := g _ _ (Nat.mod_lt _ (by omega)) (Nat.mod_lt _ (by omega)) h2
  have e3 := g _ _ (Nat.mod_lt _ (by omega)) (Nat.mod_lt _ (by omega)) h3
  omega

theorem keyB_is (i : Nat) : strOfNums [97 + (i : Int) % 26, 97 + (i : Int) / 26 % 26, 97 + (i : Int) / 676 % 26] = keyB i := by
  have g : ∀ a : Nat, (97 + (a : Int) % 26).toNat = 97 + a % 26 := fun a => by omega
  have e1 : (i : Int) / 26 = ((i / 26 : Nat) : Int) := by omega
  have e2 : (i : Int) / 676 = ((i / 676 : Nat) : Int) := by omega
  simp only [strOfNums, keyB, List.map_cons, List.map_nil, e1, e2, g]

set_option maxRecDepth 100000 in
set_option maxHeartbeats 400000 in
theorem key_any (i : Nat) (hi : i < 700) (w : World) :
    Calls Yba.prog 15 #[.int .i64 i] w fun e w' => e = .returned (.string (keyB i)) ∧ Below w.heap.size w w' := by
  have h0 : (i : Int) < 700 := by omega
  have hcv : (convert 106 9 (.slice (some ⟨w.heap.size, 0, none⟩) 3 3)).run Yba.prog (w.alloc (.cells #[.int .u8 (97 + (i : Int) % 26), .int .u8 (97 + (i : Int) / 26 % 26), .int .u8 (97 + (i : Int) / 676 % 26)] 5)) =
      .ok (.string (keyB i)) (w.alloc (.cells #[.int .u8 (97 + (i : Int) % 26), .int .u8 (97 + (i : Int) / 26 % 26), .int .u8 (97 + (i : Int) / 676 % 26)] 5)) := by
    have h := run_convert_bytes_arg (P := Yba.prog) (w.alloc (.cells #[.int .u8 (97 + (i : Int) % 26), .int .u8 (97 + (i : Int) / 26 % 26), .int .u8 (97 + (i : Int) / 676 % 26)] 5)) 106 5 Yba.underlying106 Yba.underlying5 w.heap.size 0 3 3
      [97 + (i : Int) % 26, 97 + (i : Int) / 26 % 26, 97 + (i : Int) / 676 % 26] rfl (fun j hj => by
        rw [(row_new w _ 5).cell]
        match j, hj with
        | 0, _ => rfl
        | 1, _ => rfl
        | 2, _ => rfl) 9 Yba.underlying9
    rw [h, keyB_is]
  go_enter Yba.func15, Yba.ntmps15
  go_wp2
  go_ret
  exact ⟨rfl, (Below.refl _ _).alloc (Nat.le_refl _) _⟩
end Go.Proofs.Ybulksmu.Lock
