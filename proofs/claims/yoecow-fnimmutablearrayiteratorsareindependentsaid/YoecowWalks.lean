/-
  THE LAWS' OWN WALKS: 6 (CanIterateMatchesIteration), 4 (IterateYieldsElementsInOrder), 5 (IteratorsAreIndependent).
-/
import Derived.Test.YoecowMake
namespace Go.Proofs.Yoecow
open Go.ChangeShapes Go.WideShapes Go.ChangeAt Go.RowKit

theorem step18n (p b M : Nat) (a : Option Addr) (k n : Nat) (zs : List Int) (w : World) (hz : zs.length = n) (hi : It w p (.slice (some ⟨b, 0, none⟩) n n) k n) (hM : M ≤ p)
    (ho : Objs w M b zs) (hx : Ints w M a zs) (hk : k < n) (h1 : n ≤ 1000000) :
    Calls Ecog.prog 18 #[.pointer (some ⟨p, 0, none⟩), .slice a n n, .int .i64 (k : Int)] w fun e w' =>
      e = .returned (.bool true) ∧ It w' p (.slice (some ⟨b, 0, none⟩) n n) (k + 1) n ∧ w.grownBy w' (some p) := by
  subst hz
  exact step18 p b M a k zs w hi hM ho hx hk h1

theorem walk6_small (a0 : Option Addr) (len0 cap0 : Nat) (z0 : List Int) (w : World) (hr : RowIn w a0 len0 cap0 z0) (hbig : len0 ≤ 131072) :
    Calls Ecog.prog 6 #[.slice a0 len0 cap0] w fun e w' => e = .returned (.bool true) ∧ Below w.heap.size w w' := by
  have hlen : decide ((131072 : Int) < (len0 : Int)) = false := decide_eq_false (by omega)
  go_enter Ecog.func6, Ecog.ntmps6
  go_wp2_with fail
  refine (bytes21_yes _ _ _ _ (by omega)).mono ?_
  rintro e w' ⟨rfl, rfl⟩
  go_wp2_with fail
  refine (clone11 _ _ _ z0 _ (by omega) hr).mono ?_
  rintro e w1 ⟨a1, zs, rfl, hz, hx1, hb1⟩
  go_wp2_with fail
  refine (imm16 _ _ zs _ hz (by omega) hx1).mono ?_
  rintro e w2 ⟨g, b, rfl, hg2, hc2, ho2, hb2⟩
  go_wp2_with fail
  refine (canIter22 _ _).mono ?_
  rintro e w' ⟨rfl, rfl⟩
  go_wp2_with fail
  refine (iterate17 _ _ _ _ _ hc2).mono ?_
  rintro e w3 ⟨rfl, hi3, hg3⟩
  have hs1 := hb1.size
  have hs2 := hb2.size
  have hb3 : Below w.heap.size w w3 := (hb1.trans (hb2.mono hs1)).trans (below_gr hg3 (by omega) (by intro j hj; cases hj))
  clear hr hx1 hb1 hc2 ho2 hb2 hg3
  generalize hp : w2.heap.size = p at *
  clear hp
  go_wp2_with fail
  go_loopw [5] (fun i wr => ∃ k : Nat, k ≤ len0 ∧ i = .int .i64 k ∧ It wr p (.slice (some ⟨b, 0, none⟩) len0 len0) k len0 ∧ Below w.heap.size w wr) (fun i _ => len0 - (intOf i).toNat)
  case atStart => exact ⟨0, Nat.zero_le _, rfl, hi3, hb3⟩
  case round =>
    obtain ⟨k, hk, rfl, hi, hb⟩ := hrel
    by_cases hlt : k < len0
    · have hd : decide (k < len0) = true := decide_eq_true hlt
      go_wp2_with fail
      refine (next19 _ _ _ _ _ hi (by omega)).mono ?_
      rintro e w4 ⟨rfl, hi4, hg4⟩
      have hb4 : Below w.heap.size w w4 := hb.grown hg4 hb.size (by intro j hj; cases hj; omega)
      go_wp2
      go_roundw
      case rel => exact ⟨k + 1, by omega, by go_num, hi4, hb4⟩
      case measure => simp [intOf]; omega
    · have hd : decide (k < len0) = false := decide_eq_false hlt
      have e : k = len0 := by omega
      subst e
      have hneq : ((k : Int) != (k : Int)) = false := by simp
      go_wp2_with fail
      refine (next19 _ _ _ _ _ hi (by omega)).mono ?_
      rintro e w4 ⟨rfl, hi4, hg4⟩
      have hb4 : Below w.heap.size w w4 := hb.grown hg4 hb.size (by intro j hj; cases hj; omega)
      go_wp2_with fail
      refine (canIter22 _ _).mono ?_
      rintro e w' ⟨rfl, rfl⟩
      go_wp2
      go_ret
      exact ⟨rfl, hb4⟩

theorem walk6_big (a0 : Option Addr) (len0 cap0 : Nat) (w : World) (hbig : ¬ len0 ≤ 131072) :
    Calls Ecog.prog 6 #[.slice a0 len0 cap0] w fun e w' => e = .returned (.bool true) ∧ Below w.heap.size w w' := by
  have hlen : (131072 : Int) < (len0 : Int) := by omega
  by_cases h : len0 ≤ 1048576
  · go_enter Ecog.func6, Ecog.ntmps6
    go_wp2_with (go_at_call 21; refine (bytes21_yes _ _ _ _ h).mono ?_; rintro e w' ⟨rfl, rfl⟩)
    go_ret
    exact ⟨rfl, Below.refl _ _⟩
  · go_enter Ecog.func6, Ecog.ntmps6
    go_wp2_with (go_at_call 21; refine (bytes21_no _ _ _ _ h).mono ?_; rintro e w' ⟨rfl, rfl⟩)
    go_ret
    exact ⟨rfl, Below.refl _ _⟩

theorem walk4_small (a0 : Option Addr) (len0 cap0 : Nat) (z0 : List Int) (w : World) (hr : RowIn w a0 len0 cap0 z0) (hbig : len0 ≤ 131072) :
    Calls Ecog.prog 4 #[.slice a0 len0 cap0] w fun e w' => e = .returned (.bool true) ∧ Below w.heap.size w w' := by
  have hlen : decide ((131072 : Int) < (len0 : Int)) = false := decide_eq_false (by omega)
  go_enter Ecog.func4, Ecog.ntmps4
  go_wp2_with fail
  refine (bytes15_yes _ _ _ _ (by omega)).mono ?_
  rintro e w' ⟨rfl, rfl⟩
  go_wp2_with fail
  refine (clone11 _ _ _ z0 _ (by omega) hr).mono ?_
  rintro e w1 ⟨a1, zs, rfl, hz, hx1, hb1⟩
  go_wp2_with fail
  refine (imm16 _ _ zs _ hz (by omega) hx1).mono ?_
  rintro e w2 ⟨g, b, rfl, hg2, hc2, ho2, hb2⟩
  go_wp2_with fail
  refine (iterate17 _ _ _ _ _ hc2).mono ?_
  rintro e w3 ⟨rfl, hi3, hg3⟩
  have hs1 := hb1.size
  have hs2 := hb2.size
  have hw2 : w.heap.size ≤ w2.heap.size := by omega
  have hb23 : Below w2.heap.size w2 w3 := below_gr hg3 (by omega) (by intro j hj; cases hj)
  have hb3 : Below w.heap.size w w3 := (hb1.trans (hb2.mono hs1)).trans (hb23.mono hw2)
  have ho3 := ho2.kept hb23
  have hx3 := ((hx1.kept hb2).mono hs2).kept hb23
  clear hr hx1 hb1 hc2 ho2 hb2 hg3 hb23 hg2
  generalize w2.heap.size = p at *
  have HZ : Hid (zs.length = len0) := hz
  clear hz
  go_wp2_with fail
  go_loopw [5] (fun i wr => ∃ k : Nat, k ≤ len0 ∧ i = .int .i64 k ∧ It wr p (.slice (some ⟨b, 0, none⟩) len0 len0) k len0 ∧ Objs wr p b zs ∧ Ints wr p a1 zs ∧ p ≤ wr.heap.size ∧ Below w.heap.size w wr) (fun i _ => len0 - (intOf i).toNat)
  case atStart => exact ⟨0, Nat.zero_le _, rfl, hi3, ho3, hx3, Nat.le_of_lt hi3.lt, hb3⟩
  case round =>
    obtain ⟨k, hk, rfl, hi, ho, hx, hps, hb⟩ := hrel
    by_cases hlt : k < len0
    · go_wp2_with fail
      refine (step18n _ _ p _ _ _ _ _ HZ.out hi (Nat.le_refl _) ho hx hlt (by omega)).mono ?_
      rintro e w4 ⟨rfl, hi4, hg4⟩
      have hbp : Below p wr w4 := below_gr hg4 hps (by intro j hj; cases hj; omega)
      have hb4 : Below w.heap.size w w4 := hb.trans (hbp.mono hw2)
      have hps4 : p ≤ w4.heap.size := Nat.le_trans hps hg4.size
      go_wp2
      go_roundw
      case rel => exact ⟨k + 1, by omega, by go_num, hi4, ho.kept hbp, hx.kept hbp, hps4, hb4⟩
      case measure => simp [intOf]; omega
    · have hd : decide (k < len0) = false := decide_eq_false hlt
      have hd2 : decide (k + 1 < len0) = false := decide_eq_false (by omega)
      go_wp2_with fail
      refine (next19 _ _ _ _ _ hi (by omega)).mono ?_
      rintro e w4 ⟨rfl, hi4, hg4⟩
      have hbp : Below p wr w4 := below_gr hg4 hps (by intro j hj; cases hj; omega)
      have hb4 : Below w.heap.size w w4 := hb.trans (hbp.mono hw2)
      have hps4 : p ≤ w4.heap.size := Nat.le_trans hps hg4.size
      go_wp2_with fail
      refine (next19 _ _ _ _ _ hi4 (by omega)).mono ?_
      rintro e w5 ⟨rfl, hi5, hg5⟩
      have hbp5 : Below p w4 w5 := below_gr hg5 hps4 (by intro j hj; cases hj; omega)
      have hb5 : Below w.heap.size w w5 := hb4.trans (hbp5.mono hw2)
      go_wp2
      go_ret
      exact ⟨rfl, hb5⟩

theorem walk4_big (a0 : Option Addr) (len0 cap0 : Nat) (w : World) (hbig : ¬ len0 ≤ 131072) :
    Calls Ecog.prog 4 #[.slice a0 len0 cap0] w fun e w' => e = .returned (.bool true) ∧ Below w.heap.size w w' := by
  have hlen : (131072 : Int) < (len0 : Int) := by omega
  by_cases h : len0 ≤ 1048576
  · go_enter Ecog.func4, Ecog.ntmps4
    go_wp2_with (go_at_call 15; refine (bytes15_yes _ _ _ _ h).mono ?_; rintro e w' ⟨rfl, rfl⟩)
    go_ret
    exact ⟨rfl, Below.refl _ _⟩
  · go_enter Ecog.func4, Ecog.ntmps4
    go_wp2_with (go_at_call 15; refine (bytes15_no _ _ _ _ h).mono ?_; rintro e w' ⟨rfl, rfl⟩)
    go_ret
    exact ⟨rfl, Below.refl _ _⟩

end Go.Proofs.Yoecow
