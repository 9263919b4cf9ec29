/-
  THE COPY OF AN IMMUTABLE ARRAY (31, 24), ITS NUMBERS READ BACK (26), AND THE WALK OF LAW 7.
-/
import Derived.Test.YoecowMake
namespace Go.Proofs.Yoecow
open Go.ChangeShapes Go.WideShapes Go.ChangeAt Go.RowKit

/-! ### (*Int).Copy -/
theorem intCopy59 (q : Nat) (x : Int) (w : World) (hq : w.cell? ⟨q, 0, none⟩ = some (.int .i64 x)) :
    Calls Ecog.prog 59 #[.pointer (some ⟨q, 0, none⟩)] w fun e w' => e = .returned (.iface 45 (.pointer (some ⟨w.heap.size, 0, none⟩))) ∧ w' = w.alloc (.cells #[.int .i64 x] 49) := by
  go_enter Ecog.func59, Ecog.ntmps59
  go_wp2
  go_ret
  exact ⟨rfl, rfl⟩

/-- The method of the dynamic type *Int. -/
theorem method_copy (a : Addr) (w : World) : (method 206 45 (.pointer (some a)) "Copy").run Ecog.prog w = .ok (59, .pointer (some a)) w := by kernel_rfl

/-! ### (*ImmutableArray).Copy -/
/-- After k rounds: the slice v, of k elements, bears k boxes of its own, the first k numbers of zs. -/
def Cp (B k : Nat) (zs : List Int) (w wr : World) (v : Value) : Prop :=
  ∃ os : List Value, wr.ownsRow B 51 1 v k os ∧ Below B w wr ∧
    ∀ i, i < k → ∃ q, wr.heap[q]? = some (.cells #[.int .i64 (zs.getD i 0)] 49 (0, 0)) ∧ os[i]? = some (.iface 45 (.pointer (some ⟨q, 0, none⟩)))

/-- A row of interface values is no box of a number. -/
theorem own_ne {w : World} {B k q : Nat} {v : Value} {os : List Value} {x : Int} (h : w.ownsRow B 51 1 v k os) (hq : w.heap[q]? = some (.cells #[.int .i64 x] 49 (0, 0))) : some q ≠ v.ownBlock := by
  intro e
  rcases h.2 with ⟨rfl, _⟩ | ⟨g, cap, cur, rfl, _, hg, _⟩
  · simp [Value.ownBlock] at e
  · simp [Value.ownBlock] at e
    subst e
    rw [hq] at hg
    simp at hg

theorem Cp.step {B k : Nat} {zs : List Int} {w wr w1 : World} {v v' : Value} {os : List Value} (how : wr.ownsRow B 51 1 v k os) (hbe : Below B w wr) (hB : B ≤ wr.heap.size)
    (hqs : ∀ i, i < k → ∃ q, wr.heap[q]? = some (.cells #[.int .i64 (zs.getD i 0)] 49 (0, 0)) ∧ os[i]? = some (.iface 45 (.pointer (some ⟨q, 0, none⟩))))
    {x : Int} (hx : zs.getD k 0 = x) (hown : w1.ownsRow B 51 1 v' (k + 1) (os ++ [.iface 45 (.pointer (some ⟨wr.heap.size, 0, none⟩))]))
    (hgr : ((wr.alloc (.cells #[.int .i64 x] 49)).alloc (.cells #[.iface 45 (.pointer (some ⟨wr.heap.size, 0, none⟩))] 51)).grownBy w1 v.ownBlock) : Cp B (k + 1) zs w w1 v' := by
  have hlt := how.lt
  have hlen : os.length = k := by simpa using how.1
  refine ⟨_, hown, ((hbe.alloc hB _).alloc (by simp; omega) _).grown hgr (by simp; omega) (fun j hj => (hlt j hj).1), fun i hi => ?_⟩
  by_cases e : i = k
  · subst e
    refine ⟨wr.heap.size, ?_, by rw [List.getElem?_append_right (by omega)]; simp [hlen]⟩
    rw [hgr.block wr.heap.size (by simp; omega) (fun e => by have := (hlt _ e.symm).2; omega), Below.heap_alloc _ _ _ (by simp), heap_alloc_new, hx]
  · obtain ⟨q, h1, h2⟩ := hqs i (by omega)
    have hq := lt_of_block h1
    refine ⟨q, ?_, by rw [List.getElem?_append_left (by omega)]; exact h2⟩
    rw [hgr.block q (by simp; omega) (own_ne how h1), Below.heap_alloc _ _ _ (by simp; omega), Below.heap_alloc _ _ _ hq]
    exact h1

/-- The slice '.slice a n c' of interface values reads, in w, as boxed numbers, zs; all of it lies in blocks below M. -/
def ObjsAt (w : World) (M : Nat) (a : Option Addr) (zs : List Int) : Prop := zs = [] ∨ ∃ b, a = some ⟨b, 0, none⟩ ∧ Objs w M b zs
theorem ObjsAt.kept {w w' : World} {M : Nat} {a : Option Addr} {zs : List Int} (h : ObjsAt w M a zs) (hb : Below M w w') : ObjsAt w' M a zs := by
  rcases h with h | ⟨b, ha, ho⟩
  · exact .inl h
  · exact .inr ⟨b, ha, ho.kept hb⟩
theorem ObjsAt.mono {w : World} {M M' : Nat} {a : Option Addr} {zs : List Int} (h : ObjsAt w M a zs) (hM : M ≤ M') : ObjsAt w M' a zs := by
  rcases h with h | ⟨b, ha, ho⟩
  · exact .inl h
  · exact .inr ⟨b, ha, ho.mono hM⟩

theorem Cp.done {B n : Nat} {zs : List Int} {w wr : World} {v : Value} (h : Cp B n zs w wr v) (hz : zs.length = n) : ∃ a c, v = .slice a n c ∧ ObjsAt wr wr.heap.size a zs ∧ Below B w wr := by
  obtain ⟨os, how, hbe, hqs⟩ := h
  rcases how.2 with ⟨rfl, rfl⟩ | ⟨g, cap, cur, rfl, _, hg, _⟩
  · exact ⟨none, 0, rfl, .inl (List.eq_nil_of_length_eq_zero hz), hbe⟩
  · refine ⟨_, _, rfl, .inr ⟨g, rfl, lt_of_block hg, fun i hi => ?_⟩, hbe⟩
    obtain ⟨q, h1, h2⟩ := hqs i (by omega)
    exact ⟨q, lt_of_block h1, by rw [how.cellAt i (by omega)]; exact h2, cell_of_one h1⟩

set_option maxHeartbeats 400000 in
theorem copy31 (g b n : Nat) (zs : List Int) (w : World) (hz : zs.length = n) (hn : n ≤ 1000000) (hc : w.cell? ⟨g, 0, none⟩ = some (.slice (some ⟨b, 0, none⟩) n n)) (ho : Objs w w.heap.size b zs) :
    Calls Ecog.prog 31 #[.pointer (some ⟨g, 0, none⟩)] w fun e w' => ∃ g' a' c', e = .returned (.iface 40 (.pointer (some ⟨g', 0, none⟩))) ∧ g' < w'.heap.size ∧ w'.cell? ⟨g', 0, none⟩ = some (.slice a' n c') ∧
      ObjsAt w' w'.heap.size a' zs ∧ Below w.heap.size w w' := by
  obtain ⟨i0, hi, hz0, hz1, hz2⟩ := info_parts Ecog.info51
  have hm := method_copy
  go_enter Ecog.func31, Ecog.ntmps31
  go_wp2
  go_loopw [3, 11] (fun v i wr => ∃ k : Nat, k ≤ n ∧ i = .int .i64 k ∧ Cp w.heap.size k zs w wr v) (fun _ i _ => n - (intOf i).toNat)
  case atStart => exact ⟨0, Nat.zero_le _, rfl, [], World.ownsRow_nil _ _ _ _, Below.refl _ _, fun i hi => by omega⟩
  case round =>
    obtain ⟨k, hk, rfl, H⟩ := hrel
    by_cases hlt : k < n
    · have hki : (k : Int) < (n : Int) := by omega
      obtain ⟨q, hq, cr, cq⟩ := ho.2 k (by omega)
      have hbM := ho.1
      obtain ⟨os, how, hbe, hqs⟩ := H
      have hS := hbe.size
      have cr' : wr.cell? ⟨b, k, none⟩ = some (.iface 45 (.pointer (some ⟨q, 0, none⟩))) := (hbe.cell (p := ⟨b, k, none⟩) hbM).trans cr
      have cq' : wr.cell? ⟨q, 0, none⟩ = some (.int .i64 (zs.getD k 0)) := (hbe.cell (p := ⟨q, 0, none⟩) hq).trans cq
      clear cr cq ho hc
      generalize hx : zs.getD k 0 = x at cq'
      have HX : Hid (zs.getD k 0 = x) := hx
      clear hx
      go_wp2_with fail
      refine (intCopy59 _ _ _ cq').mono ?_
      rintro e w1 ⟨rfl, rfl⟩
      go_wp2_with (at_builtin; refine wpList_append_own _ rfl _ _ 55 rfl w.heap.size 51 i0 .nilIface 1 16 Ecog.underlying55 hi hz0 hz1 hz2 rfl (by decide) _ _ _ rfl ((how.alloc _).alloc _) ⟨wr.heap.size + 1, 0, none⟩ 1 1 [.iface 45 (.pointer (some ⟨wr.heap.size, 0, none⟩))] rfl rfl ?c1 ?c2 ?c3 ?c4 ?c5 ?_)
      case c1 =>
        intro j u hj
        match j, hj with
        | 0, hj => simp at hj; subst hj; simp [Addr.add]
      case c2 => intro u hu; simp at hu; subst hu; rfl
      case c3 => unfold maxLen; omega
      case c4 => omega
      case c5 => simp; omega
      intro v' w2 hown' hgrow _
      have R := Cp.step how hbe hS hqs HX.out hown' hgrow
      clear hown' hgrow how hqs hbe
      go_wp2
      go_roundw
      case rel => exact ⟨k + 1, by omega, by go_num, R⟩
      case measure => simp [intOf]; omega
    · have e : k = n := by omega
      subst e
      obtain ⟨a', c', hv, hO, hB⟩ := H.done hz
      have hS := hB.size
      subst hv
      go_wp2
      go_ret
      exact ⟨_, a', c', rfl, by simp, by simp, (hO.kept ((Below.refl _ _).alloc (Nat.le_refl _) _)).mono (by simp), hB.alloc hS _⟩

theorem copy24 (g b n : Nat) (zs : List Int) (w : World) (hz : zs.length = n) (hn : n ≤ 1000000) (hc : w.cell? ⟨g, 0, none⟩ = some (.slice (some ⟨b, 0, none⟩) n n)) (ho : Objs w w.heap.size b zs) :
    Calls Ecog.prog 24 #[.pointer (some ⟨g, 0, none⟩)] w fun e w' => ∃ g' a' c', e = .returned (.pointer (some ⟨g', 0, none⟩)) ∧ g' < w'.heap.size ∧ w'.cell? ⟨g', 0, none⟩ = some (.slice a' n c') ∧
      ObjsAt w' w'.heap.size a' zs ∧ Below w.heap.size w w' := by
  have ht := ta40
  go_enter Ecog.func24, Ecog.ntmps24
  go_wp2_with fail
  refine (copy31 _ _ _ zs _ hz hn hc ho).mono ?_
  rintro e w1 ⟨g', a', c', rfl, h1, h2, h3, h4⟩
  go_wp2
  go_ret
  exact ⟨_, _, _, rfl, h1, h2, h3, h4⟩

/-! ### ZZarrayInts -/
set_option maxHeartbeats 400000 in
theorem ints26 (g n c : Nat) (a : Option Addr) (zs : List Int) (w : World) (hz : zs.length = n) (hn : n ≤ 1000000) (hg : g < w.heap.size) (hc : w.cell? ⟨g, 0, none⟩ = some (.slice a n c)) (ho : ObjsAt w w.heap.size a zs) :
    Calls Ecog.prog 26 #[.pointer (some ⟨g, 0, none⟩)] w fun e w' => ∃ b, e = .returned (.tuple #[.slice (some ⟨b, 0, none⟩) n n, .bool true]) ∧ Ints w' w'.heap.size (some ⟨b, 0, none⟩) zs ∧ Below w.heap.size w w' := by
  have ht := ta45
  obtain ⟨i0, hi, hz0, hz1, hz2⟩ := info_parts Ecog.info2
  obtain ⟨w1, hrun, hown, hgr⟩ := run_make_full (P := Ecog.prog) w w.heap.size 23 2 i0 (.int .i64 0) 1 Ecog.underlying23 hi hz0 hz1 .i64 .i64 n (by rw [hz2]; omega) (by unfold maxLen; omega) (Nat.le_refl _)
  have hb1 : Below w.heap.size w w1 := (Below.refl _ _).grown hgr (Nat.le_refl _) (by intro k hk; cases hk)
  have hz' : (madeCells (Value.int .i64 0).cells (n * 1)).toList = (List.replicate n (0 : Int)).map (Value.int .i64) := by
    have e : (Value.int .i64 0).cells = #[.int .i64 0] := rfl
    rw [e, toList_madeCells_one]; simp
  rw [hz'] at hown
  clear hz' hgr hi hz0 hz1 hz2
  have ho' : ∀ k, k < n → ∃ b, a = some ⟨b, 0, none⟩ ∧ b < w.heap.size ∧ ∃ q, q < w.heap.size ∧ w.cell? ⟨b, k, none⟩ = some (.iface 45 (.pointer (some ⟨q, 0, none⟩))) ∧ w.cell? ⟨q, 0, none⟩ = some (.int .i64 (zs.getD k 0)) := by
    intro k hk
    rcases ho with h | ⟨b, h1, h2, h3⟩
    · rw [h] at hz; simp at hz; omega
    · exact ⟨b, h1, h2, h3 k (by omega)⟩
  clear ho
  generalize hB : w.heap.size = B at *
  go_enter Ecog.func26, Ecog.ntmps26
  go_wp2
  go_loopw [5] (fun i wr => ∃ k : Nat, k ≤ n ∧ i = .int .i64 k ∧ ∃ ys : List Int, ys.length = zs.length ∧ (∀ i, i < k → ys.getD i 0 = zs.getD i 0) ∧
      wr.ownsRow B 2 1 (.slice (some ⟨B, 0, none⟩) n n) n (ys.map (Value.int .i64)) ∧ Below B w wr) (fun i _ => n - (intOf i).toNat)
  case atStart => exact ⟨0, Nat.zero_le _, rfl, List.replicate n 0, by simp [hz], by intro i hi; omega, hown, hb1⟩
  case round =>
    obtain ⟨k, hk, rfl, ys, hy, hys, ho, hb⟩ := hrel
    have cg : wr.cell? ⟨g, 0, none⟩ = some (.slice a n c) := (hb.cell (p := ⟨g, 0, none⟩) hg).trans hc
    by_cases hlt' : k < n
    · obtain ⟨b, rfl, hbB, q, hq, cr, cq⟩ := ho' k hlt'
      have hki : (k : Int) < (n : Int) := by omega
      have cr' := (hb.cell (p := ⟨b, k, none⟩) hbB).trans cr
      have cq' := (hb.cell (p := ⟨q, 0, none⟩) hq).trans cq
      have cf := ho.frozenAt k
      have cd : wr.cell? ⟨B, k, none⟩ = some (.int .i64 (ys.getD k 0)) := by
        rw [ho.cellAt k (by omega)]; simp [List.getD_eq_getElem?_getD, hy, hz, hlt']
      have hs := ints_set hy (by omega) hys
      have ho2 := (ho.stored k (.int .i64 (zs.getD k 0))).1
      have hb2 : Below B w (wr.setCell ⟨B, k, none⟩ (.int .i64 (zs.getD k 0))) := hb.setCell (Nat.le_refl _) _
      rw [← List.map_set] at ho2
      clear ho' cr cq
      generalize zs.getD k 0 = xk at *
      have R : Hid (_ ∧ _ ∧ _) := And.intro hs (And.intro ho2 hb2)
      clear hs ho2 hb2
      go_wp2
      go_roundw
      case rel => exact ⟨k + 1, by omega, by go_num, ys.set k xk, R.out.1.1, R.out.1.2, R.out.2.1, R.out.2.2⟩
      case measure => simp [intOf]; omega
    · go_wp2
      go_ret2
      have e : ys = zs := ints_same hy (fun i h => hys i (by omega))
      subst e
      refine ⟨B, rfl, .inr ⟨B, 0, rfl, ?_, fun i h => ?_⟩, hb⟩
      · exact (ho.lt B rfl).2
      · rw [Nat.zero_add, ho.cellAt i (by omega)]; simp [List.getD_eq_getElem?_getD, h]

end Go.Proofs.Yoecow
