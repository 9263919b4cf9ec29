/-
  THE WALK OF LAW 7 (CopyIsIterableWithSameElements).
-/
import Derived.Test.YoecowCopy
namespace Go.Proofs.Yoecow
open Go.ChangeShapes Go.WideShapes Go.ChangeAt Go.RowKit

theorem bel_drewN {B : Nat} {a w : World} (h : Below B a w) (n : Nat) : Below B a (w.drewN n) := h.trans ⟨rfl, rfl, rfl, Nat.le_refl _, fun _ _ => rfl⟩
theorem Ints.spot0 {w : World} {M b : Nat} {zs : List Int} (h : Ints w M (some ⟨b, 0, none⟩) zs) (i : Nat) (hi : i < zs.length) : w.cell? ⟨b, i, none⟩ = some (.int .i64 (zs.getD i 0)) := by
  rcases h with h | ⟨b', off, ha, _, hc⟩
  · rw [h] at hi; simp at hi
  · simp at ha
    obtain ⟨rfl, rfl⟩ := ha
    simpa using hc i hi
theorem Ints.spot {w : World} {M : Nat} {a : Option Addr} {zs : List Int} (h : Ints w M a zs) (i : Nat) (hi : i < zs.length) : ∃ b off, a = some ⟨b, off, none⟩ ∧ w.cell? ⟨b, off + i, none⟩ = some (.int .i64 (zs.getD i 0)) := by
  rcases h with h | ⟨b', off, ha, _, hc⟩
  · rw [h] at hi; simp at hi
  · exact ⟨b', off, ha, hc i hi⟩

set_option maxHeartbeats 400000 in
theorem walk7_small (a0 : Option Addr) (len0 cap0 : Nat) (z0 : List Int) (w : World) (hr : RowIn w a0 len0 cap0 z0) (hbig : len0 ≤ 131072) :
    Calls Ecog.prog 7 #[.slice a0 len0 cap0] w fun e w' => e = .returned (.bool true) ∧ Below w.heap.size w w' := by
  have hlen : decide ((131072 : Int) < (len0 : Int)) = false := decide_eq_false (by omega)
  have hnen : ((len0 : Int) != (len0 : Int)) = false := by simp
  go_enter Ecog.func7, Ecog.ntmps7
  go_wp2_with fail
  refine (bytes23_yes _ _ _ _ (by omega)).mono ?_
  rintro e w' ⟨rfl, rfl⟩
  go_wp2_with fail
  refine (clone11 _ _ _ z0 _ (by omega) hr).mono ?_
  rintro e w1 ⟨a1, zs, rfl, hz, hx1, hb1⟩
  go_wp2_with fail
  refine (imm16 _ _ zs _ hz (by omega) hx1).mono ?_
  rintro e w2 ⟨g, b, rfl, hg2, hc2, ho2, hb2⟩
  go_wp2_with fail
  refine (copy24 _ _ _ zs _ hz (by omega) hc2 ho2).mono ?_
  rintro e w3 ⟨g3, a3, c3, rfl, hg3, hc3, ho3, hb3⟩
  go_wp2_with fail
  refine (canIter22 _ _).mono ?_
  rintro e w' ⟨rfl, rfl⟩
  go_wp2_with fail
  refine (canIter25 _ _).mono ?_
  rintro e w' ⟨rfl, rfl⟩
  go_wp2_with fail
  refine (ints26 _ _ _ _ zs _ hz (by omega) hg3 hc3 ho3).mono ?_
  rintro e w4 ⟨b4, rfl, hx4, hb4⟩
  have hs1 := hb1.size
  have hs2 := hb2.size
  have hs3 := hb3.size
  have hbw : Below w.heap.size w w4 := ((hb1.trans (hb2.mono hs1)).trans (hb3.mono (by omega))).trans (hb4.mono (by omega))
  have hxs : Ints w4 w4.heap.size a1 zs := ((((hx1.kept hb2).kept (hb3.mono hs2)).kept (hb4.mono (by omega)))).mono (by have := hb4.size; omega)
  clear hr hx1 hb1 hc2 ho2 hb2 hc3 ho3 hb3 hb4 hs1 hs2 hs3
  generalize w4.heap.size = M at *
  have HZ : Hid (zs.length = len0) := hz
  clear hz
  go_wp2_with fail
  go_loopw [7] (fun i wr => ∃ k : Nat, k ≤ len0 ∧ i = .int .i64 k ∧ Ints wr M a1 zs ∧ Ints wr M (some ⟨b4, 0, none⟩) zs ∧ Below w.heap.size w wr) (fun i _ => len0 - (intOf i).toNat)
  case atStart => exact ⟨0, Nat.zero_le _, rfl, hxs, hx4, hbw⟩
  case round =>
    obtain ⟨k, hk, rfl, hxr, hyr, hb⟩ := hrel
    by_cases hlt : k < len0
    · have cy := hyr.spot0 k (by rw [HZ.out]; exact hlt)
      obtain ⟨bx, ox, ha, cx⟩ := hxr.spot k (by rw [HZ.out]; exact hlt)
      subst ha
      have hki : (k : Int) < (len0 : Int) := by omega
      generalize zs.getD k 0 = x at cx cy
      have hnex : (x != x) = false := by simp
      go_wp2
      go_quiet (fail)
      go_wp2
      go_roundw
      case rel => exact ⟨k + 1, by omega, by go_num, hxr.kept (bel_drewN (Below.refl _ _) _), hyr.kept (bel_drewN (Below.refl _ _) _), bel_drewN hb _⟩
      case measure => simp [intOf]; omega
    · go_wp2
      go_ret
      exact ⟨rfl, hb⟩

theorem walk7_big (a0 : Option Addr) (len0 cap0 : Nat) (w : World) (hbig : ¬ len0 ≤ 131072) :
    Calls Ecog.prog 7 #[.slice a0 len0 cap0] w fun e w' => e = .returned (.bool true) ∧ Below w.heap.size w w' := by
  have hlen : (131072 : Int) < (len0 : Int) := by omega
  by_cases h : len0 ≤ 1048576
  · go_enter Ecog.func7, Ecog.ntmps7
    go_wp2_with (go_at_call 23; refine (bytes23_yes _ _ _ _ h).mono ?_; rintro e w' ⟨rfl, rfl⟩)
    go_ret
    exact ⟨rfl, Below.refl _ _⟩
  · go_enter Ecog.func7, Ecog.ntmps7
    go_wp2_with (go_at_call 23; refine (bytes23_no _ _ _ _ h).mono ?_; rintro e w' ⟨rfl, rfl⟩)
    go_ret
    exact ⟨rfl, Below.refl _ _⟩

end Go.Proofs.Yoecow
