/-
  ZZSTEP; THE CLONE OF THE INPUT; THE ARRAY OF BOXED NUMBERS.
-/
import Derived.Test.YoecowLeaf
import Derived.Lib.SliceRun
namespace Go.Proofs.Yoecow
open Go.ChangeShapes Go.WideShapes Go.ChangeAt Go.RowKit

/-! ### What the walks are told of memory -/
/-- The slice value '.slice a n n' reads, in w, as the numbers zs; all of it lies in blocks below M. -/
def Ints (w : World) (M : Nat) (a : Option Addr) (zs : List Int) : Prop :=
  zs = [] ∨ ∃ b off, a = some ⟨b, off, none⟩ ∧ b < M ∧ ∀ i, i < zs.length → w.cell? ⟨b, off + i, none⟩ = some (.int .i64 (zs.getD i 0))
/-- The row at the head of block b holds boxed numbers, zs; all of it lies in blocks below M. -/
def Objs (w : World) (M b : Nat) (zs : List Int) : Prop :=
  b < M ∧ ∀ i, i < zs.length → ∃ q, q < M ∧ w.cell? ⟨b, i, none⟩ = some (.iface 45 (.pointer (some ⟨q, 0, none⟩))) ∧ w.cell? ⟨q, 0, none⟩ = some (.int .i64 (zs.getD i 0))

theorem Ints.kept {w w' : World} {M : Nat} {a : Option Addr} {zs : List Int} (h : Ints w M a zs) (hb : Below M w w') : Ints w' M a zs := by
  rcases h with h | ⟨b, off, ha, hM, hc⟩
  · exact .inl h
  · exact .inr ⟨b, off, ha, hM, fun i hi => (hb.cell (p := ⟨b, off + i, none⟩) hM).trans (hc i hi)⟩
theorem Objs.kept {w w' : World} {M b : Nat} {zs : List Int} (h : Objs w M b zs) (hb : Below M w w') : Objs w' M b zs := by
  obtain ⟨hM, hc⟩ := h
  refine ⟨hM, fun i hi => ?_⟩
  obtain ⟨q, hq, h1, h2⟩ := hc i hi
  exact ⟨q, hq, (hb.cell (p := ⟨b, i, none⟩) hM).trans h1, (hb.cell (p := ⟨q, 0, none⟩) hq).trans h2⟩
theorem Objs.mono {w : World} {M M' b : Nat} {zs : List Int} (h : Objs w M b zs) (hM : M ≤ M') : Objs w M' b zs := by
  obtain ⟨h1, hc⟩ := h
  refine ⟨by omega, fun i hi => ?_⟩
  obtain ⟨q, hq, h2⟩ := hc i hi
  exact ⟨q, by omega, h2⟩
theorem Ints.mono {w : World} {M M' : Nat} {a : Option Addr} {zs : List Int} (h : Ints w M a zs) (hM : M ≤ M') : Ints w M' a zs := by
  rcases h with h | ⟨b, off, ha, h1, hc⟩
  · exact .inl h
  · exact .inr ⟨b, off, ha, by omega, hc⟩
theorem below_gr {w w' : World} {M : Nat} {row : Option Nat} (hg : w.grownBy w' row) (hM : M ≤ w.heap.size) (hr : ∀ k, row = some k → M ≤ k) : Below M w w' := (Below.refl M w).grown hg hM hr

/-! ### zzStep: one step of the iterator, from k to k + 1 -/
theorem step18 (p b M : Nat) (a : Option Addr) (k : Nat) (zs : List Int) (w : World) (hi : It w p (.slice (some ⟨b, 0, none⟩) zs.length zs.length) k zs.length) (hM : M ≤ p)
    (ho : Objs w M b zs) (hx : Ints w M a zs) (hk : k < zs.length) (h1 : zs.length ≤ 1000000) :
    Calls Ecog.prog 18 #[.pointer (some ⟨p, 0, none⟩), .slice a zs.length zs.length, .int .i64 (k : Int)] w fun e w' =>
      e = .returned (.bool true) ∧ It w' p (.slice (some ⟨b, 0, none⟩) zs.length zs.length) (k + 1) zs.length ∧ w.grownBy w' (some p) := by
  obtain ⟨bx, ox, rfl, hbx, hcx⟩ : ∃ b off, a = some ⟨b, off, none⟩ ∧ b < M ∧ ∀ i, i < zs.length → w.cell? ⟨b, off + i, none⟩ = some (.int .i64 (zs.getD i 0)) := by
    rcases hx with h | h
    · rw [h] at hk; simp at hk
    · exact h
  have cx := hcx k hk
  obtain ⟨q, hq, cr, cq⟩ := ho.2 k hk
  have hbM := ho.1
  have hpl := hi.lt
  clear hcx ho
  generalize hx : zs.getD k 0 = x at cx cq
  generalize hn : zs.length = n at *
  clear hx hn
  have hdec : decide (k < n) = true := decide_eq_true hk
  have hneq : ((k : Int) != (k : Int)) = false := by simp
  have hnex : (x != x) = false := by simp
  have hki : (k : Int) < (n : Int) := by omega
  go_enter Ecog.func18, Ecog.ntmps18
  go_wp2_with fail
  refine (next19 _ _ _ _ _ hi (by omega)).mono ?_
  rintro e w1 ⟨rfl, hi1, hg1⟩
  have b1 : Below M w w1 := below_gr hg1 (by omega) (by intro j hj; cases hj; exact hM)
  go_wp2_with fail
  have e1 : ((k + 1 : Nat) : Int) = (k : Int) + 1 := by omega
  refine (keyInt29 p k _ (by rw [hi1.c1, e1]) (by omega)).mono ?_
  rintro e w2 ⟨rfl, hg2⟩
  have hi2 := hi1.kept hg2 (by simp)
  have b2 : Below M w w2 := b1.trans (below_gr hg2 (by have := hg1.size; omega) (by intro j hj; cases hj))
  go_wp2_with fail
  refine (valueInt30 p b 0 n n k q x _ hi2.c0 (by rw [hi2.c1, e1]) (by omega) hk (by rw [Nat.zero_add]; exact (b2.cell (p := ⟨b, k, none⟩) hbM).trans cr) ((b2.cell (p := ⟨q, 0, none⟩) hq).trans cq)).mono ?_
  rintro e w3 ⟨rfl, hg3⟩
  have hi3 := hi2.kept hg3 (by simp)
  have b3 : Below M w w3 := b2.trans (below_gr hg3 (by have := hg1.size; have := hg2.size; omega) (by intro j hj; cases hj))
  have cx3 : w3.cell? ⟨bx, ox + k, none⟩ = some (.int .i64 x) := (b3.cell (p := ⟨bx, ox + k, none⟩) hbx).trans cx
  go_wp2
  go_ret
  exact ⟨rfl, hi3, gr_trans hg1 (gr_trans (gr_but hg2 _) (gr_but hg3 _))⟩

/-! ### zzCloneInts -/
theorem Ecog.info2 : (Ecog.prog.info? 2).map (fun i => (i.zero, i.size, i.bytes)) = some (some (.int .i64 0), 1, 8) := by kernel_rfl
theorem Ecog.info51 : (Ecog.prog.info? 51).map (fun i => (i.zero, i.size, i.bytes)) = some (some .nilIface, 1, 16) := by kernel_rfl

theorem clone_nil (w : World) : Calls Ecog.prog 11 #[.slice none 0 0] w fun e w' => e = .returned (.slice none 0 0) ∧ w = w' := by
  have hq := fun (w : World) => Lib.run_eql_slice_nil (P := Ecog.prog) w 23 2 none 0 0 0 0 Ecog.underlying23
  go_enter Ecog.func11, Ecog.ntmps11
  go_wp2
  go_ret
  exact ⟨rfl, rfl⟩

/-- What the row bears behind one store more. -/
theorem ints_set {ys zs : List Int} {k : Nat} (hy : ys.length = zs.length) (hk : k < zs.length) (h : ∀ i, i < k → ys.getD i 0 = zs.getD i 0) :
    (ys.set k (zs.getD k 0)).length = zs.length ∧ ∀ i, i < k + 1 → (ys.set k (zs.getD k 0)).getD i 0 = zs.getD i 0 := by
  refine ⟨by simpa using hy, fun i hi => ?_⟩
  by_cases e : i = k
  · subst e; simp [List.getD_eq_getElem?_getD, hy, hk]
  · rw [← h i (by omega)]; simp [List.getD_eq_getElem?_getD, show ¬ k = i by omega]
theorem ints_same {ys zs : List Int} (hy : ys.length = zs.length) (h : ∀ i, i < zs.length → ys.getD i 0 = zs.getD i 0) : ys = zs := by
  refine List.ext_getElem hy fun i h1 h2 => ?_
  have := h i h2
  simpa [List.getD_eq_getElem?_getD, h1, h2] using this

/-- Nothing is written that was there; a row of the call's own bears the numbers. -/
theorem clone_some (x : Addr) (n c : Nat) (zs : List Int) (w : World) (hz : zs.length = n) (hn : n ≤ 1000000) (hc : ∀ i, i < n → w.cell? (x.add i) = some (.int .i64 (zs.getD i 0))) (hlt : ∀ i, i < n → (x.add i).block < w.heap.size) :
    Calls Ecog.prog 11 #[.slice (some x) n c] w fun e w' => e = .returned (.slice (some ⟨w.heap.size, 0, none⟩) n n) ∧ Ints w' w'.heap.size (some ⟨w.heap.size, 0, none⟩) zs ∧ Below w.heap.size w w' := by
  have hq := fun (w : World) => Lib.run_eql_slice_nil (P := Ecog.prog) w 23 2 (some x) n c 0 0 Ecog.underlying23
  obtain ⟨i0, hi, hz0, hz1, hz2⟩ := info_parts Ecog.info2
  obtain ⟨w1, hrun, hown, hgr⟩ := run_make_full (P := Ecog.prog) w w.heap.size 23 2 i0 (.int .i64 0) 1 Ecog.underlying23 hi hz0 hz1 .i64 .i64 n (by rw [hz2]; omega) (by unfold maxLen; omega) (Nat.le_refl _)
  have hb1 : Below w.heap.size w w1 := (Below.refl _ _).grown hgr (Nat.le_refl _) (by intro k hk; cases hk)
  have hz' : (madeCells (Value.int .i64 0).cells (n * 1)).toList = (List.replicate n (0 : Int)).map (Value.int .i64) := by
    have e : (Value.int .i64 0).cells = #[.int .i64 0] := rfl
    rw [e, toList_madeCells_one]; simp
  rw [hz'] at hown
  clear hz' hgr hi hz0 hz1 hz2
  generalize hB : w.heap.size = B at *
  go_enter Ecog.func11, Ecog.ntmps11
  go_wp2
  go_loopw [4] (fun i wr => ∃ k : Nat, k ≤ n ∧ i = .int .i64 k ∧ ∃ ys : List Int, ys.length = zs.length ∧ (∀ i, i < k → ys.getD i 0 = zs.getD i 0) ∧
      wr.ownsRow B 2 1 (.slice (some ⟨B, 0, none⟩) n n) n (ys.map (Value.int .i64)) ∧ Below B w wr) (fun i _ => n - (intOf i).toNat)
  case atStart => exact ⟨0, Nat.zero_le _, rfl, List.replicate n 0, by simp [hz], by intro i hi; omega, hown, hb1⟩
  case round =>
    obtain ⟨k, hk, rfl, ys, hy, hys, ho, hb⟩ := hrel
    by_cases hlt' : k < n
    · have cx : wr.cell? (x.add k) = some (.int .i64 (zs.getD k 0)) := (hb.cell (hlt k hlt')).trans (hc k hlt')
      have cf := ho.frozenAt k
      have cd : wr.cell? ⟨B, k, none⟩ = some (.int .i64 (ys.getD k 0)) := by
        rw [ho.cellAt k (by omega)]; simp [List.getD_eq_getElem?_getD, hy, hz, hlt']
      have hs := ints_set hy (by omega) hys
      have ho' := (ho.stored k (.int .i64 (zs.getD k 0))).1
      have hb' : Below B w (wr.setCell ⟨B, k, none⟩ (.int .i64 (zs.getD k 0))) := hb.setCell (Nat.le_refl _) _
      rw [← List.map_set] at ho'
      generalize zs.getD k 0 = xk at *
      have R : Hid (_ ∧ _ ∧ _) := And.intro hs (And.intro ho' hb')
      clear hs ho' hb'
      go_wp2
      go_roundw
      case rel => exact ⟨k + 1, by omega, by go_num, ys.set k xk, R.out.1.1, R.out.1.2, R.out.2.1, R.out.2.2⟩
      case measure => simp [intOf]; omega
    · go_wp2
      go_ret
      have e : ys = zs := ints_same hy (fun i h => hys i (by omega))
      subst e
      refine ⟨rfl, .inr ⟨B, 0, rfl, ?_, fun i h => ?_⟩, hb⟩
      · exact (ho.lt B rfl).2
      · rw [Nat.zero_add, ho.cellAt i (by omega)]; simp [List.getD_eq_getElem?_getD, h]

/-! ### ZZimmArrayOfInts -/
/-- After k rounds: the row at block B, of n cells, bears k boxed numbers. -/
def Half (B n k : Nat) (zs : List Int) (w wr : World) : Prop :=
  ∃ os : List Value, os.length = n ∧ wr.ownsRow B 51 1 (.slice (some ⟨B, 0, none⟩) n n) n os ∧ Below B w wr ∧
    ∀ i, i < k → ∃ q, B < q ∧ q < wr.heap.size ∧ os[i]? = some (.iface 45 (.pointer (some ⟨q, 0, none⟩))) ∧ wr.cell? ⟨q, 0, none⟩ = some (.int .i64 (zs.getD i 0))
theorem Half.lt {B n k : Nat} {zs : List Int} {w wr : World} (h : Half B n k zs w wr) : B < wr.heap.size := by
  obtain ⟨os, _, ho, _⟩ := h
  exact (ho.lt B rfl).2
theorem Half.below {B n k : Nat} {zs : List Int} {w wr : World} (h : Half B n k zs w wr) : Below B w wr := by
  obtain ⟨os, _, _, hb, _⟩ := h
  exact hb
theorem Half.free {B n k : Nat} {zs : List Int} {w wr : World} (h : Half B n k zs w wr) (j : Nat) : wr.frozen? ⟨B, j, none⟩ = false := by
  obtain ⟨os, _, ho, _⟩ := h
  exact ho.frozenAt j
theorem Half.cell {B n k : Nat} {zs : List Int} {w wr : World} (h : Half B n k zs w wr) (j : Nat) (hj : j < n) : ∃ v, wr.cell? ⟨B, j, none⟩ = some v := by
  obtain ⟨os, hl, ho, _⟩ := h
  exact ⟨os[j], by rw [ho.cellAt j (by omega)]; simp⟩
theorem Half.step {B n k : Nat} {zs : List Int} {w wr : World} (h : Half B n k zs w wr) (hk : k < n) :
    Half B n (k + 1) zs w ((wr.alloc (.cells #[.int .i64 (zs.getD k 0)] 49)).setCell ⟨B, k, none⟩ (.iface 45 (.pointer (some ⟨wr.heap.size, 0, none⟩)))) := by
  have hBl := h.lt
  obtain ⟨os, hl, ho, hb, hq⟩ := h
  have ho1 := ho.alloc (.cells #[.int .i64 (zs.getD k 0)] 49)
  obtain ⟨ho2, hg2⟩ := ho1.stored k (.iface 45 (.pointer (some ⟨wr.heap.size, 0, none⟩)))
  refine ⟨_, by simpa using hl, ho2, (hb.alloc (by omega) _).setCell (Nat.le_refl _) _, fun i hi => ?_⟩
  by_cases e : i = k
  · subst e
    refine ⟨wr.heap.size, hBl, by simp, by simp [hl, hk], ?_⟩
    refine hg2.cell (a := ⟨wr.heap.size, 0, none⟩) ?_ (by simp; omega)
    rw [World.cell?_alloc_at _ _ _ _ rfl]; rfl
  · obtain ⟨q, h1, h2, h3, h4⟩ := hq i (by omega)
    refine ⟨q, h1, by simp; omega, by rw [List.getElem?_set_ne (by omega)]; exact h3, ?_⟩
    refine hg2.cell (a := ⟨q, 0, none⟩) ?_ (by simp; omega)
    rw [World.cell?_alloc_past _ _ _ h2]; exact h4
theorem Half.objs {B n : Nat} {zs : List Int} {w wr : World} (h : Half B n n zs w wr) (hz : zs.length = n) : Objs wr wr.heap.size B zs := by
  have hBl := h.lt
  obtain ⟨os, hl, ho, hb, hq⟩ := h
  refine ⟨hBl, fun i hi => ?_⟩
  obtain ⟨q, h1, h2, h3, h4⟩ := hq i (by omega)
  exact ⟨q, h2, by rw [ho.cellAt i (by omega)]; exact h3, h4⟩

theorem imm16 (a : Option Addr) (n : Nat) (zs : List Int) (w : World) (hz : zs.length = n) (hn : n ≤ 1000000) (hx : Ints w w.heap.size a zs) :
    Calls Ecog.prog 16 #[.slice a n n] w fun e w' => ∃ g b, e = .returned (.pointer (some ⟨g, 0, none⟩)) ∧ g < w'.heap.size ∧ w'.cell? ⟨g, 0, none⟩ = some (.slice (some ⟨b, 0, none⟩) n n) ∧
      Objs w' w'.heap.size b zs ∧ Below w.heap.size w w' := by
  obtain ⟨i0, hi, hz0, hz1, hz2⟩ := info_parts Ecog.info51
  obtain ⟨w1, hrun, hown, hgr⟩ := run_make_full (P := Ecog.prog) w w.heap.size 55 51 i0 .nilIface 1 Ecog.underlying55 hi hz0 hz1 .i64 .i64 n (by rw [hz2]; omega) (by unfold maxLen; omega) (Nat.le_refl _)
  have hb1 : Below w.heap.size w w1 := (Below.refl _ _).grown hgr (Nat.le_refl _) (by intro k hk; cases hk)
  have H0 : Half w.heap.size n 0 zs w w1 := ⟨_, by simp [size_madeCells], hown, hb1, fun i hi => by omega⟩
  clear hgr hi hz0 hz1 hz2 hown hb1
  have hx' : ∀ k, k < n → ∃ b off, a = some ⟨b, off, none⟩ ∧ b < w.heap.size ∧ w.cell? ⟨b, off + k, none⟩ = some (.int .i64 (zs.getD k 0)) := by
    intro k hk
    rcases hx with h | ⟨b, off, h1, h2, h3⟩
    · rw [h] at hz; simp at hz; omega
    · exact ⟨b, off, h1, h2, h3 k (by omega)⟩
  clear hx
  generalize hB : w.heap.size = B at *
  go_enter Ecog.func16, Ecog.ntmps16
  go_wp2
  go_loopw [4] (fun i wr => ∃ k : Nat, k ≤ n ∧ i = .int .i64 k ∧ Half B n k zs w wr) (fun i _ => n - (intOf i).toNat)
  case atStart => exact ⟨0, Nat.zero_le _, rfl, H0⟩
  case round =>
    obtain ⟨k, hk, rfl, H⟩ := hrel
    by_cases hlt : k < n
    · obtain ⟨b, off, rfl, hb, cx0⟩ := hx' k hlt
      have cx : wr.cell? ⟨b, off + k, none⟩ = some (.int .i64 (zs.getD k 0)) := (H.below.cell (p := ⟨b, off + k, none⟩) hb).trans cx0
      have cf := H.free k
      obtain ⟨v, cd⟩ := H.cell k hlt
      have hBl := H.lt
      have H' := H.step hlt
      rw [World.setCell_alloc_past _ _ _ _ hBl] at H'
      generalize zs.getD k 0 = xk at *
      clear hx' cx0
      go_wp2
      go_roundw
      case rel => exact ⟨k + 1, by omega, by go_num, H'⟩
      case measure => simp [intOf]; omega
    · have e : k = n := by omega
      subst e
      have hBl := H.lt
      have HO := H.objs hz
      have hb := H.below
      go_wp2
      go_ret
      exact ⟨_, B, rfl, by simp, by simp, (HO.kept ((Below.refl _ _).alloc (Nat.le_refl _) _)).mono (by simp), hb.alloc (by omega) _⟩

/-! ### The clone, whatever slice of numbers came in -/
/-- What the rows tell of a slice of int64 that came in (the shells' own words). -/
def RowIn (w : World) (a : Option Addr) (len cap : Nat) (zs : List Int) : Prop :=
  (a = none ∧ len = 0 ∧ cap = 0 ∧ zs = []) ∨
  ∃ x, a = some x ∧ len ≤ cap ∧ cap ≤ maxLen ∧ zs.length = cap ∧ (∀ i, i < zs.length → w.cell? (x.add i) = some (.int .i64 (zs.getD i 0))) ∧ ∀ n ∈ zs, (Lit.int .i64 n).wf = true

theorem clone11 (a : Option Addr) (n c : Nat) (z : List Int) (w : World) (hn : n ≤ 1000000) (h : RowIn w a n c z) :
    Calls Ecog.prog 11 #[.slice a n c] w fun e w' => ∃ a' zs, e = .returned (.slice a' n n) ∧ zs.length = n ∧ Ints w' w'.heap.size a' zs ∧ Below w.heap.size w w' := by
  rcases h with ⟨rfl, rfl, rfl, rfl⟩ | ⟨x, rfl, hl, _, hz, hc, _⟩
  · refine (clone_nil w).mono ?_
    rintro e w' ⟨rfl, rfl⟩
    exact ⟨none, [], rfl, rfl, .inl rfl, Below.refl _ _⟩
  · have hlen : (z.take n).length = n := by simp; omega
    have hc' : ∀ i, i < n → w.cell? (x.add i) = some (.int .i64 ((z.take n).getD i 0)) := by
      intro i hi
      rw [hc i (by omega)]
      simp [List.getD_eq_getElem?_getD, hi]
    refine (clone_some x n c (z.take n) w hlen hn hc' (fun i hi => World.block_lt_of_cell? w _ (hc' i hi))).mono ?_
    rintro e w' ⟨rfl, h1, h2⟩
    exact ⟨_, _, rfl, hlen, h1, h2⟩

end Go.Proofs.Yoecow
