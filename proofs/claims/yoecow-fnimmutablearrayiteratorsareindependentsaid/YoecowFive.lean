/-
  THE WALK OF LAW 5 (IteratorsAreIndependent): two iterators over one array, three loops.
-/
import Derived.Test.YoecowWalks
namespace Go.Proofs.Yoecow
open Go.ChangeShapes Go.WideShapes Go.ChangeAt Go.RowKit

/-- What stays while iterators from block p on are stepped: the boxed numbers, the clone, and all that was there before the call. -/
def Run (w : World) (p b : Nat) (a : Option Addr) (zs : List Int) (wr : World) : Prop :=
  Objs wr p b zs ∧ Ints wr p a zs ∧ p ≤ wr.heap.size ∧ w.heap.size ≤ p ∧ Below w.heap.size w wr
theorem Run.step {w : World} {p b : Nat} {a : Option Addr} {zs : List Int} {wr wn : World} {row : Option Nat} (h : Run w p b a zs wr) (hg : wr.grownBy wn row) (hr : ∀ k, row = some k → p ≤ k) : Run w p b a zs wn := by
  obtain ⟨h1, h2, h3, h4, h5⟩ := h
  have hb : Below p wr wn := below_gr hg h3 hr
  exact ⟨h1.kept hb, h2.kept hb, Nat.le_trans h3 hg.size, h4, h5.trans (hb.mono h4)⟩

set_option maxHeartbeats 1000000 in
theorem walk5_small (a0 : Option Addr) (len0 cap0 : Nat) (z0 : List Int) (ak : Int) (K : Nat) (w : World) (hr : RowIn w a0 len0 cap0 z0) (hbig : len0 ≤ 131072) (hKle : K ≤ len0)
    (hK : (decide (ak < 0) = true ∧ len0 ≤ K) ∨ (decide (ak < 0) = false ∧ decide ((len0 : Int) < ak) = true ∧ len0 ≤ K) ∨ (decide ((K : Int) < 0) = false ∧ decide ((len0 : Int) < (K : Int)) = false ∧ ak = (K : Int))) :
    Calls Ecog.prog 5 #[.slice a0 len0 cap0, .int .i64 ak] w fun e w' => e = .returned (.bool true) ∧ Below w.heap.size w w' := by
  have hlen : decide ((131072 : Int) < (len0 : Int)) = false := decide_eq_false (by omega)
  rcases hK with ⟨hd1, h2⟩ | ⟨hd1, hd2, h2⟩ | ⟨hd1, hd2, rfl⟩
  all_goals
    go_enter Ecog.func5, Ecog.ntmps5
    go_wp2_with fail
    refine (bytes20_yes _ _ _ _ _ (by omega)).mono ?_
    rintro e w' ⟨rfl, rfl⟩
    go_wp2_with fail
    refine (clone11 _ _ _ z0 _ (by omega) hr).mono ?_
    rintro e w1 ⟨a1, zs, rfl, hz, hx1, hb1⟩
    go_wp2_with fail
    refine (imm16 _ _ zs _ hz (by omega) hx1).mono ?_
    rintro e w2 ⟨g, b, rfl, hg2, hc2, ho2, hb2⟩
    go_wp2_with fail
    refine (iterate17 _ _ _ _ _ hc2).mono ?_
    rintro e w3 ⟨rfl, hi3, hg3⟩
    have hs1 := hb1.size
    have hs2 := hb2.size
    have hR2 : Run w w2.heap.size b a1 zs w2 := ⟨ho2, (hx1.kept hb2).mono hs2, Nat.le_refl _, by omega, hb1.trans (hb2.mono hs1)⟩
    have hR3 := hR2.step hg3 (by intro j hj; cases hj)
    have hc3 := (below_gr hg3 (Nat.le_refl _) (by intro j hj; cases hj)).cell (p := ⟨g, 0, none⟩) hg2
    rw [hc2] at hc3
    clear hr hx1 hb1 hc2 ho2 hb2 hg3 hR2 hs1 hs2
    generalize w2.heap.size = p at *
    have HZ : Hid (zs.length = len0) := hz
    clear hz
    go_wp2_with fail
    go_loopw [7] (fun i wr => ∃ k : Nat, k ≤ K ∧ i = .int .i64 k ∧ It wr p (.slice (some ⟨b, 0, none⟩) len0 len0) k len0 ∧ Run w p b a1 zs wr ∧ wr.cell? ⟨g, 0, none⟩ = some (.slice (some ⟨b, 0, none⟩) len0 len0)) (fun i _ => K - (intOf i).toNat)
    case atStart => exact ⟨0, Nat.zero_le _, rfl, hi3, hR3, hc3⟩
    case round =>
      obtain ⟨k, hk, rfl, hi, hR, hc⟩ := hrel
      by_cases hlt : k < K
      · go_wp2_with fail
        refine (step18n _ _ p _ _ _ _ _ HZ.out hi (Nat.le_refl _) hR.1 hR.2.1 (by omega) (by omega)).mono ?_
        rintro e w4 ⟨rfl, hi4, hg4⟩
        have hR4 := hR.step hg4 (by intro j hj; cases hj; omega)
        have hc4 : w4.cell? ⟨g, 0, none⟩ = some (.slice (some ⟨b, 0, none⟩) len0 len0) := hg4.cell (a := ⟨g, 0, none⟩) hc (by simp; omega)
        go_wp2
        go_roundw
        case rel => exact ⟨k + 1, by omega, by go_num, hi4, hR4, hc4⟩
        case measure => simp [intOf]; omega
      · have hkK : K ≤ k := by omega
        go_wp2_with fail
        refine (iterate17 _ _ _ _ _ hc).mono ?_
        rintro e w5 ⟨rfl, hi5, hg5⟩
        have hp5 := hi.kept hg5 (by simp)
        have hR5 := hR.step hg5 (by intro j hj; cases hj)
        have hpq := hi.lt
        clear hi3 hR3 hc3 hi hR hc hg5
        generalize wr.heap.size = q at *
        go_wp2_with fail
        go_loopw [9] (fun i wr => ∃ m : Nat, m ≤ len0 ∧ i = .int .i64 m ∧ It wr q (.slice (some ⟨b, 0, none⟩) len0 len0) m len0 ∧ It wr p (.slice (some ⟨b, 0, none⟩) len0 len0) k len0 ∧ Run w p b a1 zs wr) (fun i _ => len0 - (intOf i).toNat)
        case atStart => exact ⟨0, Nat.zero_le _, rfl, hi5, hp5, hR5⟩
        case round =>
          obtain ⟨m, hm, rfl, hq, hp, hR⟩ := hrel
          by_cases hlm : m < len0
          · go_wp2_with fail
            refine (step18n _ _ p _ _ _ _ _ HZ.out hq (by omega) hR.1 hR.2.1 hlm (by omega)).mono ?_
            rintro e w6 ⟨rfl, hq6, hg6⟩
            have hR6 := hR.step hg6 (by intro j hj; cases hj; omega)
            have hp6 := hp.kept hg6 (by simp; omega)
            go_wp2
            go_roundw
            case rel => exact ⟨m + 1, by omega, by go_num, hq6, hp6, hR6⟩
            case measure => simp [intOf]; omega
          · have hdm : decide (m < len0) = false := decide_eq_false hlm
            go_wp2_with fail
            refine (next19 _ _ _ _ _ hq (by omega)).mono ?_
            rintro e w6 ⟨rfl, hq6, hg6⟩
            have hR6 := hR.step hg6 (by intro j hj; cases hj; omega)
            have hp6 := hp.kept hg6 (by simp; omega)
            clear hq hp hR hi5 hp5 hR5 hg6 hq6
            go_wp2_with fail
            go_loopw [10] (fun i wr => ∃ j : Nat, j ≤ len0 ∧ i = .int .i64 j ∧ It wr p (.slice (some ⟨b, 0, none⟩) len0 len0) j len0 ∧ Run w p b a1 zs wr) (fun i _ => len0 - (intOf i).toNat)
            case atStart => exact ⟨k, by omega, by go_num, hp6, hR6⟩
            case round =>
              obtain ⟨j, hj, rfl, hp, hR⟩ := hrel
              by_cases hlj : j < len0
              · go_wp2_with fail
                refine (step18n _ _ p _ _ _ _ _ HZ.out hp (Nat.le_refl _) hR.1 hR.2.1 hlj (by omega)).mono ?_
                rintro e w7 ⟨rfl, hp7, hg7⟩
                have hR7 := hR.step hg7 (by intro i hi; cases hi; omega)
                go_wp2
                go_roundw
                case rel => exact ⟨j + 1, by omega, by go_num, hp7, hR7⟩
                case measure => simp [intOf]; omega
              · have hdj : decide (j < len0) = false := decide_eq_false hlj
                go_wp2_with fail
                refine (next19 _ _ _ _ _ hp (by omega)).mono ?_
                rintro e w7 ⟨rfl, hp7, hg7⟩
                have hR7 := hR.step hg7 (by intro i hi; cases hi; omega)
                go_wp2
                go_ret
                exact ⟨rfl, hR7.2.2.2.2⟩

theorem walk5_big (a0 : Option Addr) (len0 cap0 : Nat) (ak : Int) (w : World) (hbig : ¬ len0 ≤ 131072) :
    Calls Ecog.prog 5 #[.slice a0 len0 cap0, .int .i64 ak] w fun e w' => e = .returned (.bool true) ∧ Below w.heap.size w w' := by
  have hlen : (131072 : Int) < (len0 : Int) := by omega
  by_cases h : len0 ≤ 1048576
  · go_enter Ecog.func5, Ecog.ntmps5
    go_wp2_with (go_at_call 20; refine (bytes20_yes _ _ _ _ _ h).mono ?_; rintro e w' ⟨rfl, rfl⟩)
    go_ret
    exact ⟨rfl, Below.refl _ _⟩
  · go_enter Ecog.func5, Ecog.ntmps5
    go_wp2_with (go_at_call 20; refine (bytes20_no _ _ _ _ _ h).mono ?_; rintro e w' ⟨rfl, rfl⟩)
    go_ret
    exact ⟨rfl, Below.refl _ _⟩

theorem walk5 (a0 : Option Addr) (len0 cap0 : Nat) (z0 : List Int) (ak : Int) (w : World) (hr : RowIn w a0 len0 cap0 z0) :
    Calls Ecog.prog 5 #[.slice a0 len0 cap0, .int .i64 ak] w fun e w' => e = .returned (.bool true) ∧ Below w.heap.size w w' := by
  by_cases hbig : len0 ≤ 131072
  · by_cases h : 0 ≤ ak ∧ ak ≤ (len0 : Int)
    · exact walk5_small a0 len0 cap0 z0 ak ak.toNat w hr hbig (by omega) (.inr (.inr ⟨decide_eq_false (by omega), decide_eq_false (by omega), by omega⟩))
    · by_cases h0 : ak < 0
      · exact walk5_small a0 len0 cap0 z0 ak len0 w hr hbig (Nat.le_refl _) (.inl ⟨decide_eq_true h0, Nat.le_refl _⟩)
      · exact walk5_small a0 len0 cap0 z0 ak len0 w hr hbig (Nat.le_refl _) (.inr (.inl ⟨decide_eq_false h0, decide_eq_true (by omega), Nat.le_refl _⟩))
  · exact walk5_big a0 len0 cap0 ak w hbig

end Go.Proofs.Yoecow
