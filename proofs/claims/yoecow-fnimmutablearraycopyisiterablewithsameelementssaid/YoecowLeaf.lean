/-
  THE LEAVES: what each small function on the roads does, one contract a function.
-/
import Derived.Test.YoecowRows
import Derived.WalkKit
import Derived.ProofKit
import Derived.OpenShut
import Derived.ShutString
import Derived.ChangeOld
import Derived.Below
import Derived.RegionTactic
import Derived.Deep.QuietTactic
import Derived.BigQuiet
import Derived.Outline
namespace Go.Proofs.Yoecow
open Go.ChangeShapes Go.WideShapes Go.ChangeAt Go.RowKit

/-! ### Worlds: new blocks, and writes into one block alone ('grownBy') -/
theorem gr_trans {a b c : World} {row : Option Nat} (h : a.grownBy b row) (k : b.grownBy c row) : a.grownBy c row :=
  ⟨k.os.trans h.os, k.tape.trans h.tape, k.output.trans h.output, Nat.le_trans h.size k.size,
    fun i hi hn => (k.block i (Nat.lt_of_lt_of_le hi h.size) hn).trans (h.block i hi hn)⟩
theorem gr_but {a c : World} (h : a.grownBy c none) (row : Option Nat) : a.grownBy c row := ⟨h.os, h.tape, h.output, h.size, fun i hi _ => h.block i hi (by simp)⟩
theorem gr_setCell (w : World) (a : Addr) (u : Value) : w.grownBy (w.setCell a u) (some a.block) :=
  ⟨rfl, rfl, rfl, by simp [World.setCell], fun k _ hk => Below.heap_setCell _ _ _ _ (fun e => hk (by rw [e]))⟩
theorem gr_drewN (w : World) (n : Nat) (row : Option Nat) : w.grownBy (w.drewN n) row := ⟨rfl, rfl, rfl, Nat.le_refl _, fun _ _ _ => rfl⟩

/-! ### The bounds on the lengths -/
theorem bytes15_yes (a : Option Addr) (n c : Nat) (w : World) (h : n ≤ 1048576) :
    Calls Ecog.prog 15 #[.slice a n c] w fun e w' => e = .returned (.bool true) ∧ w = w' := by
  have h' : ¬ ((1048576 : Int) < (n : Int)) := by omega
  go_enter Ecog.func15, Ecog.ntmps15
  go_wp2
  go_ret
  exact ⟨rfl, rfl⟩
theorem bytes15_no (a : Option Addr) (n c : Nat) (w : World) (h : ¬ n ≤ 1048576) :
    Calls Ecog.prog 15 #[.slice a n c] w fun e w' => e = .returned (.bool false) ∧ w = w' := by
  have h' : (1048576 : Int) < (n : Int) := by omega
  go_enter Ecog.func15, Ecog.ntmps15
  go_wp2
  go_ret
  exact ⟨rfl, rfl⟩
theorem bytes20_yes (a : Option Addr) (n c : Nat) (x : Value) (w : World) (h : n ≤ 1048576) :
    Calls Ecog.prog 20 #[.slice a n c, x] w fun e w' => e = .returned (.bool true) ∧ w = w' := by
  have h' : ¬ ((1048576 : Int) < (n : Int)) := by omega
  go_enter Ecog.func20, Ecog.ntmps20
  go_wp2
  go_ret
  exact ⟨rfl, rfl⟩
theorem bytes20_no (a : Option Addr) (n c : Nat) (x : Value) (w : World) (h : ¬ n ≤ 1048576) :
    Calls Ecog.prog 20 #[.slice a n c, x] w fun e w' => e = .returned (.bool false) ∧ w = w' := by
  have h' : (1048576 : Int) < (n : Int) := by omega
  go_enter Ecog.func20, Ecog.ntmps20
  go_wp2
  go_ret
  exact ⟨rfl, rfl⟩
theorem bytes21_yes (a : Option Addr) (n c : Nat) (w : World) (h : n ≤ 1048576) :
    Calls Ecog.prog 21 #[.slice a n c] w fun e w' => e = .returned (.bool true) ∧ w = w' := by
  have h' : ¬ ((1048576 : Int) < (n : Int)) := by omega
  go_enter Ecog.func21, Ecog.ntmps21
  go_wp2
  go_ret
  exact ⟨rfl, rfl⟩
theorem bytes21_no (a : Option Addr) (n c : Nat) (w : World) (h : ¬ n ≤ 1048576) :
    Calls Ecog.prog 21 #[.slice a n c] w fun e w' => e = .returned (.bool false) ∧ w = w' := by
  have h' : (1048576 : Int) < (n : Int) := by omega
  go_enter Ecog.func21, Ecog.ntmps21
  go_wp2
  go_ret
  exact ⟨rfl, rfl⟩
theorem bytes23_yes (a : Option Addr) (n c : Nat) (w : World) (h : n ≤ 1048576) :
    Calls Ecog.prog 23 #[.slice a n c] w fun e w' => e = .returned (.bool true) ∧ w = w' := by
  have h' : ¬ ((1048576 : Int) < (n : Int)) := by omega
  go_enter Ecog.func23, Ecog.ntmps23
  go_wp2
  go_ret
  exact ⟨rfl, rfl⟩
theorem bytes23_no (a : Option Addr) (n c : Nat) (w : World) (h : ¬ n ≤ 1048576) :
    Calls Ecog.prog 23 #[.slice a n c] w fun e w' => e = .returned (.bool false) ∧ w = w' := by
  have h' : (1048576 : Int) < (n : Int) := by omega
  go_enter Ecog.func23, Ecog.ntmps23
  go_wp2
  go_ret
  exact ⟨rfl, rfl⟩

/-! ### CanIterate -/
theorem canIter22 (v : Value) (w : World) :
    Calls Ecog.prog 22 #[v] w fun e w' => e = .returned (.bool true) ∧ w = w' := by
  go_enter Ecog.func22, Ecog.ntmps22
  go_wp2
  go_ret
  exact ⟨rfl, rfl⟩
theorem canIter25 (v : Value) (w : World) :
    Calls Ecog.prog 25 #[v] w fun e w' => e = .returned (.bool true) ∧ w = w' := by
  go_enter Ecog.func25, Ecog.ntmps25
  go_wp2
  go_ret
  exact ⟨rfl, rfl⟩

/-! ### The iterator: a block of three cells: the slice, the count, the length -/
/-- Block p of w is an iterator over the slice value v, of length n, that has made k steps. -/
def It (w : World) (p : Nat) (v : Value) (k n : Nat) : Prop := w.heap[p]? = some (.cells #[v, .int .i64 (k : Int), .int .i64 (n : Int)] 65 (0, 0))
theorem It.c0 {w : World} {p : Nat} {v : Value} {k n : Nat} (h : It w p v k n) : w.cell? ⟨p, 0, none⟩ = some v := by unfold It at h; simp [World.cell?, h]
theorem It.c1 {w : World} {p : Nat} {v : Value} {k n : Nat} (h : It w p v k n) : w.cell? ⟨p, 1, none⟩ = some (.int .i64 (k : Int)) := by unfold It at h; simp [World.cell?, h]
theorem It.c2 {w : World} {p : Nat} {v : Value} {k n : Nat} (h : It w p v k n) : w.cell? ⟨p, 2, none⟩ = some (.int .i64 (n : Int)) := by unfold It at h; simp [World.cell?, h]
theorem It.free {w : World} {p : Nat} {v : Value} {k n : Nat} (h : It w p v k n) : w.frozen? ⟨p, 1, none⟩ = false := by unfold It at h; simp [World.frozen?, h]
theorem It.lt {w : World} {p : Nat} {v : Value} {k n : Nat} (h : It w p v k n) : p < w.heap.size := lt_of_block h
theorem It.step {w : World} {p : Nat} {v : Value} {k n : Nat} (h : It w p v k n) : It (w.setCell ⟨p, 1, none⟩ (.int .i64 ((k : Int) + 1))) p v (k + 1) n := by
  have e : (((k + 1 : Nat) : Int)) = (k : Int) + 1 := by omega
  unfold It at h ⊢
  rw [heap_setCell_same w p 1 _ 65 _ h, e]
  rfl
theorem It.kept {w w' : World} {p : Nat} {v : Value} {k n : Nat} {row : Option Nat} (h : It w p v k n) (hg : w.grownBy w' row) (hne : some p ≠ row) : It w' p v k n := (hg.block p h.lt hne).trans h

/-- Next: the count goes up by one. -/
theorem next19_raw (p : Nat) (k n : Nat) (w : World) (hi : w.cell? ⟨p, 1, none⟩ = some (.int .i64 (k : Int))) (hl : w.cell? ⟨p, 2, none⟩ = some (.int .i64 (n : Int)))
    (hf : w.frozen? ⟨p, 1, none⟩ = false) (h1 : k ≤ 1000000) :
    Calls Ecog.prog 19 #[.pointer (some ⟨p, 0, none⟩)] w fun e w' => e = .returned (.bool (decide ((k : Int) + 1 ≤ (n : Int)))) ∧ ∃ nq, w' = (w.setCell ⟨p, 1, none⟩ (.int .i64 ((k : Int) + 1))).drewN nq := by
  go_enter Ecog.func19, Ecog.ntmps19
  go_wp2
  go_quiet (fail)
  go_wp2
  go_ret
  exact ⟨rfl, _, rfl⟩
theorem next19 (p : Nat) (v : Value) (k n : Nat) (w : World) (h : It w p v k n) (h1 : k ≤ 1000000) :
    Calls Ecog.prog 19 #[.pointer (some ⟨p, 0, none⟩)] w fun e w' => e = .returned (.bool (decide (k < n))) ∧ It w' p v (k + 1) n ∧ w.grownBy w' (some p) := by
  refine (next19_raw p k n w h.c1 h.c2 h.free h1).mono ?_
  rintro e w' ⟨rfl, nq, rfl⟩
  have e : decide ((k : Int) + 1 ≤ (n : Int)) = decide (k < n) := by
    by_cases h : k < n
    · rw [decide_eq_true h, decide_eq_true (by omega)]
    · rw [decide_eq_false h, decide_eq_false (by omega)]
  rw [e]
  exact ⟨rfl, h.step, gr_trans (gr_setCell w ⟨p, 1, none⟩ (.int .i64 ((k : Int) + 1))) (gr_drewN _ nq _)⟩

/-! ### The type assertions on the roads: the dynamic type is the one that is asked for -/
theorem ta45 (v : Value) (w : World) : (Instr.typeAssert (.iface 45 v) 51 45 true).run Ecog.prog w = .ok (.tuple #[v, .bool true]) w := by
  simp [Instr.typeAssert, run_underlying Ecog.underlying45]
theorem ta35 (v : Value) (w : World) : (Instr.typeAssert (.iface 35 v) 60 35 true).run Ecog.prog w = .ok (.tuple #[v, .bool true]) w := by
  simp [Instr.typeAssert, run_underlying Ecog.underlying35]
theorem ta40 (v : Value) (w : World) : (Instr.typeAssert (.iface 40 v) 51 40 true).run Ecog.prog w = .ok (.tuple #[v, .bool true]) w := by
  simp [Instr.typeAssert, run_underlying Ecog.underlying40]

/-! ### Key, Value -/
theorem key32 (p : Nat) (k : Nat) (w : World) (hi : w.cell? ⟨p, 1, none⟩ = some (.int .i64 ((k : Int) + 1))) (h1 : k ≤ 1000000) :
    Calls Ecog.prog 32 #[.pointer (some ⟨p, 0, none⟩)] w fun e w' => e = .returned (.iface 45 (.pointer (some ⟨w.heap.size, 0, none⟩))) ∧ w' = w.alloc (.cells #[.int .i64 (k : Int)] 49) := by
  have e1 : (k : Int) + 1 - 1 = (k : Int) := by omega
  go_enter Ecog.func32, Ecog.ntmps32
  go_wp2
  go_ret
  exact ⟨rfl, rfl⟩

theorem keyInt29 (p : Nat) (k : Nat) (w : World) (hi : w.cell? ⟨p, 1, none⟩ = some (.int .i64 ((k : Int) + 1))) (h1 : k ≤ 1000000) :
    Calls Ecog.prog 29 #[.pointer (some ⟨p, 0, none⟩)] w fun e w' => e = .returned (.tuple #[.int .i64 (k : Int), .bool true]) ∧ w.grownBy w' none := by
  have ht := ta45
  go_enter Ecog.func29, Ecog.ntmps29
  go_wp2_with (go_at_call 32; refine (key32 _ _ _ hi h1).mono ?_; rintro e w' ⟨rfl, rfl⟩)
  go_ret2
  exact ⟨rfl, World.grownBy_alloc _ _ _⟩

theorem value33 (p b off n c k : Nat) (v : Value) (w : World) (hs : w.cell? ⟨p, 0, none⟩ = some (.slice (some ⟨b, off, none⟩) n c)) (hi : w.cell? ⟨p, 1, none⟩ = some (.int .i64 ((k : Int) + 1)))
    (h1 : k ≤ 1000000) (hn : k < n) (hv : w.cell? ⟨b, off + k, none⟩ = some v) :
    Calls Ecog.prog 33 #[.pointer (some ⟨p, 0, none⟩)] w fun e w' => e = .returned v ∧ ∃ nq, w' = w.drewN nq := by
  have e1 : (k : Int) + 1 - 1 = (k : Int) := by omega
  have hw : IntKind.i64.wrap (k : Int) = (k : Int) := by rw [IntKind.wrap_i64]; omega
  have h3 : (k : Int) < (n : Int) := by omega
  go_enter Ecog.func33, Ecog.ntmps33
  go_wp2
  go_quiet (fail)
  go_wp2
  go_ret
  exact ⟨rfl, _, rfl⟩

theorem valueInt30 (p b off n c k q : Nat) (x : Int) (w : World) (hs : w.cell? ⟨p, 0, none⟩ = some (.slice (some ⟨b, off, none⟩) n c)) (hi : w.cell? ⟨p, 1, none⟩ = some (.int .i64 ((k : Int) + 1)))
    (h1 : k ≤ 1000000) (hn : k < n) (hv : w.cell? ⟨b, off + k, none⟩ = some (.iface 45 (.pointer (some ⟨q, 0, none⟩)))) (hq : w.cell? ⟨q, 0, none⟩ = some (.int .i64 x)) :
    Calls Ecog.prog 30 #[.pointer (some ⟨p, 0, none⟩)] w fun e w' => e = .returned (.tuple #[.int .i64 x, .bool true]) ∧ w.grownBy w' none := by
  have ht := ta45
  go_enter Ecog.func30, Ecog.ntmps30
  go_wp2_with (go_at_call 33; refine (value33 _ _ _ _ _ _ _ _ hs hi h1 hn hv).mono ?_; rintro e w' ⟨rfl, nq, rfl⟩)
  go_ret2
  exact ⟨rfl, gr_drewN _ _ _⟩

/-! ### Iterate -/
theorem iterate28 (p : Nat) (a : Option Addr) (n c : Nat) (w : World) (hs : w.cell? ⟨p, 0, none⟩ = some (.slice a n c)) :
    Calls Ecog.prog 28 #[.pointer (some ⟨p, 0, none⟩)] w fun e w' => e = .returned (.iface 35 (.pointer (some ⟨w.heap.size, 0, none⟩))) ∧ w' = (w.alloc (.cells #[.slice a n c, .int .i64 0, .int .i64 n] 65)).drew := by
  go_enter Ecog.func28, Ecog.ntmps28
  go_wp2
  go_region
  all_goals (go_wp2; go_ret; exact ⟨rfl, rfl⟩)

theorem iterate17 (p : Nat) (a : Option Addr) (n c : Nat) (w : World) (hs : w.cell? ⟨p, 0, none⟩ = some (.slice a n c)) :
    Calls Ecog.prog 17 #[.pointer (some ⟨p, 0, none⟩)] w fun e w' => e = .returned (.pointer (some ⟨w.heap.size, 0, none⟩)) ∧ It w' w.heap.size (.slice a n c) 0 n ∧ w.grownBy w' none := by
  have ht := ta35
  go_enter Ecog.func17, Ecog.ntmps17
  go_wp2_with (go_at_call 28; refine (iterate28 _ _ _ _ _ hs).mono ?_; rintro e w' ⟨rfl, rfl⟩)
  go_ret
  exact ⟨rfl, heap_alloc_new w _, gr_trans (World.grownBy_alloc w (.cells #[.slice a n c, .int .i64 0, .int .i64 n] 65) none) (gr_drewN _ 1 _)⟩

end Go.Proofs.Yoecow
