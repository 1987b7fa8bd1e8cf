-- Written by a program of this claim's session (after the kit's print, with a kind for float64). Lean checks it.
import Derived.Test.YtfcalbjebomgcaaGreatDoorM01
set_option linter.unusedVariables false
set_option linter.unusedSimpArgs false
namespace Go.Proofs.YtfcalbjebomgcaaGreatDoor.Q
open Go.RowKit Go.Proofs.YtfcalbjebomgcaaGreatDoorW.PrintWords Go.Proofs.YtfcalbjebomgcaaGreatDoorW.PrintLast Go.Proofs.YtfcalbjebomgcaaGreatDoorW.PrintMore
attribute [local go_sem] max2_int min2_int max_two min_two max_three min_three max_four min_four   -- for this text's walks alone
set_option linter.unusedVariables false
set_option linter.unusedSimpArgs false

/-! ### spec_sized: function 30 -/
def spec_sized.f (a0_0 : ByteArray) (l0_1 : List Int) (l0_2 : List ByteArray) (a1 : Int) (a2 : Int) : Option (Bool) := if (l0_1.length : Int) = a1 then (some ((l0_2.length : Int) == a2)) else (some false)
set_option maxHeartbeats 8000000 in
set_option maxRecDepth 100000 in
theorem spec_sized.calls (a0_0 : ByteArray) (A0_1 : Option Addr) (c0_1 : Nat) (l0_1 : List Int) (A0_2 : Option Addr) (c0_2 : Nat) (l0_2 : List ByteArray) (a1 : Int) (a2 : Int) (r : Bool) (w : World) (hr0_1 : Kd.C (Kd.int .u64) w A0_1 l0_1.length l0_1) (hc0_1 : l0_1.length ≤ c0_1) (hr0_2 : Kd.C Kd.string w A0_2 l0_2.length l0_2) (hc0_2 : l0_2.length ≤ c0_2) (h : spec_sized.f a0_0 l0_1 l0_2 a1 a2 = some r) :
    Calls Tryz.prog 30 #[.agg #[.string a0_0, .slice A0_1 l0_1.length c0_1, .slice A0_2 l0_2.length c0_2], .int .i64 a1, .int .i64 a2] w fun e w' => e = .returned (.bool r) ∧ Below w.heap.size w w' := by
  have hu31 := Tryz.underlying31
  have HR0_1 := Aside0.mk hr0_1
  have HC0_1 := Aside0.mk hc0_1
  clear hr0_1 hc0_1
  have HR0_2 := Aside0.mk hr0_2
  have HC0_2 := Aside0.mk hc0_2
  clear hr0_2 hc0_2
  have HB := Aside0.mk (Below.refl w.heap.size w)
  have H : (if (l0_1.length : Int) = a1 then (some ((l0_2.length : Int) == a2)) else (some false)) = some r := h
  clear h
  by_cases c4 : (l0_1.length : Int) = a1
  · rw [if_pos c4] at H
    have c4b0 : ((l0_1.length : Int) == a1) = true := beq_iff_eq.mpr c4
    have c4b1 : ((l0_1.length : Int) != a1) = false := bne_eq_false_iff_eq.mpr c4
    clear c4
    obtain rfl := Option.some.inj H
    go_enter Tryz.func30, Tryz.ntmps30
    go_wp2_with (first | ((with_reducible refine gate_dst (N := 3) rfl ?_); (try (refine gate_guard (by rfl) ?_; dsimp only)); refine box_event ?hg (N := 3) ?hd (cs := #[.string a0_0, .slice A0_1 l0_1.length c0_1, .slice A0_2 l0_2.length c0_2]) (t := 31) ?hr ?_; (case hd => rfl); (case hg => rfl); (case hr => first | (go_simp; done) | (go_simp; rfl)); intro gb215 hg w5 hbox hb; have n0_ := Aside0.mk (below_step (by repeat (first | (with_reducible first | exact HB.out | apply below_alloc | apply pw_below_drewN | apply below_drew1) | exact HB.out)) hb); have n1_ := Aside0.mk (hbox); have n2_ := Aside0.mk ((by rw [hg]; exact (below_size (by repeat (first | (with_reducible first | exact HB.out | apply below_alloc | apply pw_below_drewN | apply below_drew1) | exact HB.out))) : w.heap.size ≤ gb215)); have n3_ := Aside0.mk ((by rw [hg]; exact (below_size (by repeat (first | (with_reducible first | exact HB.out | apply below_alloc | apply pw_below_drewN | apply below_drew1) | exact HB.out))) : w.heap.size ≤ gb215)); clear HB; have HB := n0_; have BK215 := n1_; have GW215 := n2_; have GE215 := n3_; clear n0_ n1_ n2_ n3_; clear hb hbox hg; have hcz6_0 : w5.cell? ⟨gb215, 0, none⟩ = some (.string a0_0) := (blk_cell BK215.out 0).trans rfl; have hcz6_1 : w5.cell? ⟨gb215, 1, none⟩ = some (.slice A0_1 l0_1.length c0_1) := (blk_cell BK215.out 1).trans rfl; have hcz6_2 : w5.cell? ⟨gb215, 2, none⟩ = some (.slice A0_2 l0_2.length c0_2) := (blk_cell BK215.out 2).trans rfl; have hfz6_0 := blk_frozen BK215.out 0; have hfz6_1 := blk_frozen BK215.out 1; have hfz6_2 := blk_frozen BK215.out 2))
    go_ret
    exact ⟨by first | rfl | (simp [errW_none, errW_some] <;> rfl) | (simp [*, errW_none, errW_some] <;> rfl), by repeat (first | (with_reducible first | exact HB.out | apply below_alloc | apply pw_below_drewN | apply below_drew1 | refine below_set ?_ GE215.out) | exact HB.out)⟩
  · rw [if_neg c4] at H
    have c4b0 : ((l0_1.length : Int) == a1) = false := beq_eq_false_iff_ne.mpr c4
    have c4b1 : ((l0_1.length : Int) != a1) = true := bne_iff_ne.mpr c4
    obtain rfl := Option.some.inj H
    go_enter Tryz.func30, Tryz.ntmps30
    go_wp2_with (first | ((with_reducible refine gate_dst (N := 3) rfl ?_); (try (refine gate_guard (by rfl) ?_; dsimp only)); refine box_event ?hg (N := 3) ?hd (cs := #[.string a0_0, .slice A0_1 l0_1.length c0_1, .slice A0_2 l0_2.length c0_2]) (t := 31) ?hr ?_; (case hd => rfl); (case hg => rfl); (case hr => first | (go_simp; done) | (go_simp; rfl)); intro gb215 hg w7 hbox hb; have n0_ := Aside0.mk (below_step (by repeat (first | (with_reducible first | exact HB.out | apply below_alloc | apply pw_below_drewN | apply below_drew1) | exact HB.out)) hb); have n1_ := Aside0.mk (hbox); have n2_ := Aside0.mk ((by rw [hg]; exact (below_size (by repeat (first | (with_reducible first | exact HB.out | apply below_alloc | apply pw_below_drewN | apply below_drew1) | exact HB.out))) : w.heap.size ≤ gb215)); have n3_ := Aside0.mk ((by rw [hg]; exact (below_size (by repeat (first | (with_reducible first | exact HB.out | apply below_alloc | apply pw_below_drewN | apply below_drew1) | exact HB.out))) : w.heap.size ≤ gb215)); clear HB; have HB := n0_; have BK215 := n1_; have GW215 := n2_; have GE215 := n3_; clear n0_ n1_ n2_ n3_; clear hb hbox hg; have hcz8_0 : w7.cell? ⟨gb215, 0, none⟩ = some (.string a0_0) := (blk_cell BK215.out 0).trans rfl; have hcz8_1 : w7.cell? ⟨gb215, 1, none⟩ = some (.slice A0_1 l0_1.length c0_1) := (blk_cell BK215.out 1).trans rfl; have hcz8_2 : w7.cell? ⟨gb215, 2, none⟩ = some (.slice A0_2 l0_2.length c0_2) := (blk_cell BK215.out 2).trans rfl; have hfz8_0 := blk_frozen BK215.out 0; have hfz8_1 := blk_frozen BK215.out 1; have hfz8_2 := blk_frozen BK215.out 2))
    go_ret
    exact ⟨by first | rfl | (simp [errW_none, errW_some] <;> rfl) | (simp [*, errW_none, errW_some] <;> rfl), by repeat (first | (with_reducible first | exact HB.out | apply below_alloc | apply pw_below_drewN | apply below_drew1 | refine below_set ?_ GE215.out) | exact HB.out)⟩

end Go.Proofs.YtfcalbjebomgcaaGreatDoor.Q

-- Written by a program of this claim's session (after the kit's print, with a kind for float64). Lean checks it.
namespace Go.Proofs.YtfcalbjebomgcaaGreatDoor.Q
open Go.RowKit Go.Proofs.YtfcalbjebomgcaaGreatDoorW.PrintWords Go.Proofs.YtfcalbjebomgcaaGreatDoorW.PrintLast Go.Proofs.YtfcalbjebomgcaaGreatDoorW.PrintMore
attribute [local go_sem] max2_int min2_int max_two min_two max_three min_three max_four min_four   -- for this text's walks alone
set_option linter.unusedVariables false
set_option linter.unusedSimpArgs false

/-! ### spec_small: function 31 -/
def spec_small.l0 : Nat → Int → List Int → Int → Int → Option (Bool)
  | 0, _, _, _, _ => none
  | k + 1, x0, x7, x8, x9 => if x9 < x8 then (if 0 ≤ x9 then (if x9 < (x7.length : Int) then (if (rd x7 x9) ≥ x0 then (some false) else (spec_small.l0 k x0 x7 x8 (wrap64 (x9 + 1)))) else (none)) else (none)) else (some true)
def spec_small.f (k : Nat) (a0 : Int) (l1 : List Int) : Option (Bool) := spec_small.l0 k a0 l1 (l1.length : Int) 0
theorem spec_small.mono_l : ∀ k, (∀ y0 y1 y2 y3, LeO (spec_small.l0 k y0 y1 y2 y3) (spec_small.l0 (k + 1) y0 y1 y2 y3))
  | 0 => fun _ _ _ _ r h => by simp [spec_small.l0] at h
  | k + 1 => by
    have ih0 := spec_small.mono_l k
    · intro y0 y1 y2 y3
      unfold spec_small.l0
      repeat' first
      | (with_reducible exact ih0 _ _ _ _)
      | (with_reducible exact LeO.refl _)
      | (with_reducible exact LeO.none _)
      | (with_reducible refine LeO.ite ?_ ?_)
      | (with_reducible refine LeO.bind ?_ (fun _ => ?_))
      | exact ih0 _ _ _ _
      | exact LeO.none _
      | refine LeO.ite ?_ ?_
      | refine LeO.bind ?_ (fun _ => ?_)
theorem spec_small.mono : ∀ a0 a1 k, LeO (spec_small.f k a0 a1) (spec_small.f (k + 1) a0 a1) := by
  intro a0 a1 k
  have ih0 := spec_small.mono_l k
  unfold spec_small.f
  repeat' first
      | (with_reducible exact ih0 _ _ _ _)
      | (with_reducible exact LeO.refl _)
      | (with_reducible exact LeO.none _)
      | (with_reducible refine LeO.ite ?_ ?_)
      | (with_reducible refine LeO.bind ?_ (fun _ => ?_))
      | exact ih0 _ _ _ _
      | exact LeO.none _
      | refine LeO.ite ?_ ?_
      | refine LeO.bind ?_ (fun _ => ?_)
set_option maxHeartbeats 8000000 in
set_option maxRecDepth 100000 in
theorem spec_small.calls (k : Nat) (a0 : Int) (A1 : Option Addr) (c1 : Nat) (l1 : List Int) (r : Bool) (w : World) (hr1 : Kd.C (Kd.int .u64) w A1 l1.length l1) (hc1 : l1.length ≤ c1) (h : spec_small.f k a0 l1 = some r) :
    Calls Tryz.prog 31 #[.int .u64 a0, .slice A1 l1.length c1] w fun e w' => e = .returned (.bool r) ∧ Drawn0 w w' := by
  have HR1 := Aside0.mk hr1
  have HC1 := Aside0.mk hc1
  clear hr1 hc1
  have H : (spec_small.l0 k a0 l1 (l1.length : Int) 0) = some r := h
  clear h
  have H' := Aside0.mk H
  clear H
  go_enter Tryz.func31, Tryz.ntmps31
  go_wp2
  go_loopg [9] k (fun kq v9 w' => ∃ (x9_1 : Int), v9 = .int .i64 x9_1 ∧ Aside0 (spec_small.l0 kq a0 l1 (l1.length : Int) x9_1 = some r) ∧ Aside0 (kq ≤ k) ∧ Drawn0 w w')
  case atStart => exact ⟨(0), (by first | rfl | (simp; done) | (simp [*]; done)), H', ⟨Nat.le_refl _⟩, by repeat (first | exact Drawn0.refl _ | apply Drawn0.step)⟩
  case round =>
    clear H'
    try clear c1
    try clear p2
    obtain ⟨x9_1, rfl, HA, HK1, ⟨m1, rfl⟩⟩ := hrel
    cases gk with
    | zero => exact absurd HA.out (by simp [spec_small.l0])
    | succ k1 =>
      have H := HA.out
      clear HA
      simp only [spec_small.l0] at H
      by_cases c3 : x9_1 < (l1.length : Int)
      · rw [if_pos c3] at H
        have c3b0 : decide (x9_1 < (l1.length : Int)) = true := decide_eq_true c3
        clear c3
        by_cases c4 : 0 ≤ x9_1
        · rw [if_pos c4] at H
          have c4b0 : decide (0 ≤ x9_1) = true := decide_eq_true c4
          clear c4
          by_cases c5 : x9_1 < (l1.length : Int)
          · rw [if_pos c5] at H
            have c5b0 : decide (x9_1 < (l1.length : Int)) = true := decide_eq_true c5
            clear c5
            by_cases c6 : (rd l1 x9_1) ≥ a0
            · rw [if_pos c6] at H
              have c6b0 : decide (a0 ≤ (rd l1 x9_1)) = true := decide_eq_true c6
              clear c6
              obtain rfl := Option.some.inj H
              have p216 : 0 ≤ (x9_1 : Int) := of_decide_eq_true (by first | (with_reducible assumption) | assumption)
              have q216 : x9_1 < (l1.length : Int) := of_decide_eq_true (by first | (with_reducible assumption) | assumption)
              obtain ⟨ad216, e216, hx216_0⟩ := Kd.at_int HR1.out x9_1 p216 q216
              cases e216
              replace p216 := eq_true p216
              replace q216 := eq_true q216
              go_wp2
              go_ret
              exact ⟨by first | rfl | (simp; done) | (simp [*]; done), by repeat (first | exact Drawn0.refl _ | apply Drawn0.step)⟩
            · rw [if_neg c6] at H
              have c6b0 : decide (a0 ≤ (rd l1 x9_1)) = false := decide_eq_false c6
              clear c6
              have H' := Aside0.mk H
              clear H
              have p216 : 0 ≤ (x9_1 : Int) := of_decide_eq_true (by first | (with_reducible assumption) | assumption)
              have q216 : x9_1 < (l1.length : Int) := of_decide_eq_true (by first | (with_reducible assumption) | assumption)
              obtain ⟨ad216, e216, hx216_0⟩ := Kd.at_int HR1.out x9_1 p216 q216
              cases e216
              replace p216 := eq_true p216
              replace q216 := eq_true q216
              go_wp2
              go_roundg k1
              case measure => have := HK1.out; omega
              case rel => exact ⟨(wrap64 (x9_1 + 1)), (by first | rfl | (simp; done) | (simp [*]; done)), H', ⟨by have := HK1.out; omega⟩, by repeat (first | exact Drawn0.refl _ | apply Drawn0.step)⟩
          · rw [if_neg c5] at H
            exact absurd H (by simp)
        · rw [if_neg c4] at H
          exact absurd H (by simp)
      · rw [if_neg c3] at H
        have c3b0 : decide (x9_1 < (l1.length : Int)) = false := decide_eq_false c3
        clear c3
        obtain rfl := Option.some.inj H
        go_wp2
        go_ret
        exact ⟨by first | rfl | (simp; done) | (simp [*]; done), by repeat (first | exact Drawn0.refl _ | apply Drawn0.step)⟩

end Go.Proofs.YtfcalbjebomgcaaGreatDoor.Q

-- Written by a program of this claim's session (after the kit's print, with a kind for float64). Lean checks it.
namespace Go.Proofs.YtfcalbjebomgcaaGreatDoor.Q
open Go.RowKit Go.Proofs.YtfcalbjebomgcaaGreatDoorW.PrintWords Go.Proofs.YtfcalbjebomgcaaGreatDoorW.PrintLast Go.Proofs.YtfcalbjebomgcaaGreatDoorW.PrintMore
attribute [local go_sem] max2_int min2_int max_two min_two max_three min_three max_four min_four   -- for this text's walks alone
set_option linter.unusedVariables false
set_option linter.unusedSimpArgs false

/-! ### spec_distinct: function 32 -/
mutual
def spec_distinct.l0 : Nat → List (S31) → Int → Int → Option (Bool)
  | 0, _, _, _ => none
  | k + 1, x0, x6, x7 => if x7 < x6 then (spec_distinct.l1 k x0 x7 x6 x7 x7 0) else (some true)
def spec_distinct.l1 : Nat → List (S31) → Int → Int → Int → Int → Int → Option (Bool)
  | 0, _, _, _, _, _, _ => none
  | k + 1, x0, x3, x6, x7, x10, x11 => if x11 < x10 then (if 0 ≤ x3 then (if x3 < (x0.length : Int) then (if 0 ≤ x11 then (if x11 < (x0.length : Int) then (if ((rd_T31 x0 x3).f0).toList = ((rd_T31 x0 x11).f0).toList then (some false) else (spec_distinct.l1 k x0 x3 x6 x7 x10 (wrap64 (x11 + 1)))) else (none)) else (none)) else (none)) else (none)) else (spec_distinct.l0 k x0 x6 (wrap64 (x7 + 1)))
end
def spec_distinct.f (k : Nat) (l0 : List (S31)) : Option (Bool) := spec_distinct.l0 k l0 (l0.length : Int) 0
theorem spec_distinct.mono_l : ∀ k, (∀ y0 y1 y2, LeO (spec_distinct.l0 k y0 y1 y2) (spec_distinct.l0 (k + 1) y0 y1 y2)) ∧ (∀ y0 y1 y2 y3 y4 y5, LeO (spec_distinct.l1 k y0 y1 y2 y3 y4 y5) (spec_distinct.l1 (k + 1) y0 y1 y2 y3 y4 y5))
  | 0 => ⟨fun _ _ _ r h => by simp [spec_distinct.l0] at h, fun _ _ _ _ _ _ r h => by simp [spec_distinct.l1] at h⟩
  | k + 1 => by
    obtain ⟨ih0, ih1⟩ := spec_distinct.mono_l k
    refine ⟨?_, ?_⟩
    · intro y0 y1 y2
      unfold spec_distinct.l0
      repeat' first
      | (with_reducible exact ih0 _ _ _)
      | (with_reducible exact ih1 _ _ _ _ _ _)
      | (with_reducible exact LeO.refl _)
      | (with_reducible exact LeO.none _)
      | (with_reducible refine LeO.ite ?_ ?_)
      | (with_reducible refine LeO.bind ?_ (fun _ => ?_))
      | exact ih0 _ _ _
      | exact ih1 _ _ _ _ _ _
      | exact LeO.none _
      | refine LeO.ite ?_ ?_
      | refine LeO.bind ?_ (fun _ => ?_)
    · intro y0 y1 y2 y3 y4 y5
      unfold spec_distinct.l1
      repeat' first
      | (with_reducible exact ih0 _ _ _)
      | (with_reducible exact ih1 _ _ _ _ _ _)
      | (with_reducible exact LeO.refl _)
      | (with_reducible exact LeO.none _)
      | (with_reducible refine LeO.ite ?_ ?_)
      | (with_reducible refine LeO.bind ?_ (fun _ => ?_))
      | exact ih0 _ _ _
      | exact ih1 _ _ _ _ _ _
      | exact LeO.none _
      | refine LeO.ite ?_ ?_
      | refine LeO.bind ?_ (fun _ => ?_)
theorem spec_distinct.mono : ∀ a0 k, LeO (spec_distinct.f k a0) (spec_distinct.f (k + 1) a0) := by
  intro a0 k
  obtain ⟨ih0, ih1⟩ := spec_distinct.mono_l k
  unfold spec_distinct.f
  repeat' first
      | (with_reducible exact ih0 _ _ _)
      | (with_reducible exact ih1 _ _ _ _ _ _)
      | (with_reducible exact LeO.refl _)
      | (with_reducible exact LeO.none _)
      | (with_reducible refine LeO.ite ?_ ?_)
      | (with_reducible refine LeO.bind ?_ (fun _ => ?_))
      | exact ih0 _ _ _
      | exact ih1 _ _ _ _ _ _
      | exact LeO.none _
      | refine LeO.ite ?_ ?_
      | refine LeO.bind ?_ (fun _ => ?_)
set_option maxHeartbeats 8000000 in
set_option maxRecDepth 100000 in
theorem spec_distinct.calls (k : Nat) (A0 : Option Addr) (c0 : Nat) (l0 : List (S31)) (r : Bool) (w : World) (hr0 : Kd.C k31 w A0 l0.length l0) (hc0 : l0.length ≤ c0) (h : spec_distinct.f k l0 = some r) :
    Calls Tryz.prog 32 #[.slice A0 l0.length c0] w fun e w' => e = .returned (.bool r) ∧ Drawn0 w w' := by
  have HR0 := Aside0.mk hr0
  have HC0 := Aside0.mk hc0
  clear hr0 hc0
  have H : (spec_distinct.l0 k l0 (l0.length : Int) 0) = some r := h
  clear h
  have H' := Aside0.mk H
  clear H
  go_enter Tryz.func32, Tryz.ntmps32
  go_wp2
  repeat (go_quiet (fail); try go_wp2)
  go_loopg [7] k (fun kq v7 w' => ∃ (x7_1 : Int), v7 = .int .i64 x7_1 ∧ Aside0 (spec_distinct.l0 kq l0 (l0.length : Int) x7_1 = some r) ∧ Aside0 (kq ≤ k) ∧ Drawn0 w w')
  case atStart => exact ⟨(0), (by first | rfl | (simp; done) | (simp [*]; done)), H', ⟨Nat.le_refl _⟩, by repeat (first | exact Drawn0.refl _ | apply Drawn0.step)⟩
  case round =>
    clear H'
    obtain ⟨x7_1, rfl, HA, HK1, ⟨m1, rfl⟩⟩ := hrel
    cases gk with
    | zero => exact absurd HA.out (by simp [spec_distinct.l0])
    | succ k1 =>
      have H := HA.out
      clear HA
      simp only [spec_distinct.l0] at H
      by_cases c2 : x7_1 < (l0.length : Int)
      · rw [if_pos c2] at H
        have c2b0 : decide (x7_1 < (l0.length : Int)) = true := decide_eq_true c2
        clear c2
        have H' := Aside0.mk H
        clear H
        go_wp2
        repeat (go_quiet (fail); try go_wp2)
        go_loopg [11] k1 (fun kq v11 w' => ∃ (x11_2 : Int), v11 = .int .i64 x11_2 ∧ Aside0 (spec_distinct.l1 kq l0 x7_1 (l0.length : Int) x7_1 x7_1 x11_2 = some r) ∧ Aside0 (kq ≤ k1) ∧ Drawn0 w w')
        case atStart => exact ⟨(0), (by first | rfl | (simp; done) | (simp [*]; done)), H', ⟨Nat.le_refl _⟩, by repeat (first | exact Drawn0.refl _ | apply Drawn0.step)⟩
        case round =>
          clear H'
          try clear c2
          try clear c2b0
          try clear p2
          obtain ⟨x11_2, rfl, HA, HK2, ⟨m2, rfl⟩⟩ := hrel
          cases gk with
          | zero => exact absurd HA.out (by simp [spec_distinct.l1])
          | succ k2 =>
            have H := HA.out
            clear HA
            simp only [spec_distinct.l1] at H
            by_cases c3 : x11_2 < x7_1
            · rw [if_pos c3] at H
              have c3b0 : decide (x11_2 < x7_1) = true := decide_eq_true c3
              clear c3
              by_cases c4 : 0 ≤ x7_1
              · rw [if_pos c4] at H
                have c4b0 : decide (0 ≤ x7_1) = true := decide_eq_true c4
                clear c4
                by_cases c5 : x7_1 < (l0.length : Int)
                · rw [if_pos c5] at H
                  have c5b0 : decide (x7_1 < (l0.length : Int)) = true := decide_eq_true c5
                  clear c5
                  by_cases c6 : 0 ≤ x11_2
                  · rw [if_pos c6] at H
                    have c6b0 : decide (0 ≤ x11_2) = true := decide_eq_true c6
                    clear c6
                    by_cases c7 : x11_2 < (l0.length : Int)
                    · rw [if_pos c7] at H
                      have c7b0 : decide (x11_2 < (l0.length : Int)) = true := decide_eq_true c7
                      clear c7
                      by_cases c8 : ((rd_T31 l0 x7_1).f0).toList = ((rd_T31 l0 x11_2).f0).toList
                      · rw [if_pos c8] at H
                        have c8b0 : (((rd_T31 l0 x7_1).f0).toList == ((rd_T31 l0 x11_2).f0).toList) = true := beq_iff_eq.mpr c8
                        have c8b1 : (((rd_T31 l0 x7_1).f0).toList != ((rd_T31 l0 x11_2).f0).toList) = false := bne_eq_false_iff_eq.mpr c8
                        clear c8
                        obtain rfl := Option.some.inj H
                        have p217 : 0 ≤ (x7_1 : Int) := of_decide_eq_true (by first | (with_reducible assumption) | assumption)
                        have q217 : x7_1 < (l0.length : Int) := of_decide_eq_true (by first | (with_reducible assumption) | assumption)
                        obtain ⟨ad217, A217_1, c217_1, A217_2, c217_2, e217, hx217_0, hx217_1, hx217_2, hl217_1, hi217_1, hl217_2, hi217_2⟩ := at_T31 HR0.out x7_1 p217 q217
                        cases e217
                        have HR217_1 := Aside0.mk hi217_1
                        have HC217_1 := Aside0.mk hl217_1
                        clear hi217_1 hl217_1
                        have HR217_2 := Aside0.mk hi217_2
                        have HC217_2 := Aside0.mk hl217_2
                        clear hi217_2 hl217_2
                        replace p217 := eq_true p217
                        replace q217 := eq_true q217
                        have p218 : 0 ≤ (x11_2 : Int) := of_decide_eq_true (by first | (with_reducible assumption) | assumption)
                        have q218 : x11_2 < (l0.length : Int) := of_decide_eq_true (by first | (with_reducible assumption) | assumption)
                        obtain ⟨ad218, A218_1, c218_1, A218_2, c218_2, e218, hx218_0, hx218_1, hx218_2, hl218_1, hi218_1, hl218_2, hi218_2⟩ := at_T31 HR0.out x11_2 p218 q218
                        obtain rfl : ad217 = ad218 := (by injection e218)
                        have HR218_1 := Aside0.mk hi218_1
                        have HC218_1 := Aside0.mk hl218_1
                        clear hi218_1 hl218_1
                        have HR218_2 := Aside0.mk hi218_2
                        have HC218_2 := Aside0.mk hl218_2
                        clear hi218_2 hl218_2
                        replace p218 := eq_true p218
                        replace q218 := eq_true q218
                        go_wp2
                        repeat (go_quiet (fail); try go_wp2)
                        go_ret
                        exact ⟨by first | rfl | (simp; done) | (simp [*]; done), by repeat (first | exact Drawn0.refl _ | apply Drawn0.step)⟩
                      · rw [if_neg c8] at H
                        have c8b0 : (((rd_T31 l0 x7_1).f0).toList == ((rd_T31 l0 x11_2).f0).toList) = false := beq_eq_false_iff_ne.mpr c8
                        have c8b1 : (((rd_T31 l0 x7_1).f0).toList != ((rd_T31 l0 x11_2).f0).toList) = true := bne_iff_ne.mpr c8
                        have H' := Aside0.mk H
                        clear H
                        have p217 : 0 ≤ (x7_1 : Int) := of_decide_eq_true (by first | (with_reducible assumption) | assumption)
                        have q217 : x7_1 < (l0.length : Int) := of_decide_eq_true (by first | (with_reducible assumption) | assumption)
                        obtain ⟨ad217, A217_1, c217_1, A217_2, c217_2, e217, hx217_0, hx217_1, hx217_2, hl217_1, hi217_1, hl217_2, hi217_2⟩ := at_T31 HR0.out x7_1 p217 q217
                        cases e217
                        have HR217_1 := Aside0.mk hi217_1
                        have HC217_1 := Aside0.mk hl217_1
                        clear hi217_1 hl217_1
                        have HR217_2 := Aside0.mk hi217_2
                        have HC217_2 := Aside0.mk hl217_2
                        clear hi217_2 hl217_2
                        replace p217 := eq_true p217
                        replace q217 := eq_true q217
                        have p218 : 0 ≤ (x11_2 : Int) := of_decide_eq_true (by first | (with_reducible assumption) | assumption)
                        have q218 : x11_2 < (l0.length : Int) := of_decide_eq_true (by first | (with_reducible assumption) | assumption)
                        obtain ⟨ad218, A218_1, c218_1, A218_2, c218_2, e218, hx218_0, hx218_1, hx218_2, hl218_1, hi218_1, hl218_2, hi218_2⟩ := at_T31 HR0.out x11_2 p218 q218
                        obtain rfl : ad217 = ad218 := (by injection e218)
                        have HR218_1 := Aside0.mk hi218_1
                        have HC218_1 := Aside0.mk hl218_1
                        clear hi218_1 hl218_1
                        have HR218_2 := Aside0.mk hi218_2
                        have HC218_2 := Aside0.mk hl218_2
                        clear hi218_2 hl218_2
                        replace p218 := eq_true p218
                        replace q218 := eq_true q218
                        go_wp2
                        repeat (go_quiet (fail); try go_wp2)
                        go_roundg k2
                        case measure => have := HK1.out; have := HK2.out; omega
                        case rel => exact ⟨(wrap64 (x11_2 + 1)), (by first | rfl | (simp; done) | (simp [*]; done)), H', ⟨by have := HK1.out; have := HK2.out; omega⟩, by repeat (first | exact Drawn0.refl _ | apply Drawn0.step)⟩
                    · rw [if_neg c7] at H
                      exact absurd H (by simp)
                  · rw [if_neg c6] at H
                    exact absurd H (by simp)
                · rw [if_neg c5] at H
                  exact absurd H (by simp)
              · rw [if_neg c4] at H
                exact absurd H (by simp)
            · rw [if_neg c3] at H
              have c3b0 : decide (x11_2 < x7_1) = false := decide_eq_false c3
              clear c3
              have H' := Aside0.mk H
              clear H
              go_wp2
              repeat (go_quiet (fail); try go_wp2)
              go_roundg k2
              case measure => have := HK1.out; have := HK2.out; omega
              case rel => exact ⟨(wrap64 (x7_1 + 1)), (by first | rfl | (simp; done) | (simp [*]; done)), H', ⟨by have := HK1.out; have := HK2.out; omega⟩, by repeat (first | exact Drawn0.refl _ | apply Drawn0.step)⟩
      · rw [if_neg c2] at H
        have c2b0 : decide (x7_1 < (l0.length : Int)) = false := decide_eq_false c2
        clear c2
        obtain rfl := Option.some.inj H
        go_wp2
        repeat (go_quiet (fail); try go_wp2)
        go_ret
        exact ⟨by first | rfl | (simp; done) | (simp [*]; done), by repeat (first | exact Drawn0.refl _ | apply Drawn0.step)⟩

end Go.Proofs.YtfcalbjebomgcaaGreatDoor.Q

-- Written by a program of this claim's session (after the kit's print, with a kind for float64). Lean checks it.
namespace Go.Proofs.YtfcalbjebomgcaaGreatDoor.Q
open Go.RowKit Go.Proofs.YtfcalbjebomgcaaGreatDoorW.PrintWords Go.Proofs.YtfcalbjebomgcaaGreatDoorW.PrintLast Go.Proofs.YtfcalbjebomgcaaGreatDoorW.PrintMore
attribute [local go_sem] max2_int min2_int max_two min_two max_three min_three max_four min_four run_store_float   -- for this text's walks alone
set_option linter.unusedVariables false
set_option linter.unusedSimpArgs false

/-! ### spec_textNode: function 15 -/
def spec_textNode.f (a0 : ByteArray) (a1 : ByteArray) : Option (ByteArray × Int × Bool × Int × Int × Nat × ByteArray × (List (S39))) := some (a0, 5, false, 0, 0, (0 : Nat), a1, ([] : List (S39)))
set_option maxHeartbeats 8000000 in
set_option maxRecDepth 100000 in
theorem spec_textNode.calls (a0 : ByteArray) (a1 : ByteArray) (r1 : ByteArray) (r2 : Int) (r3 : Bool) (r4 : Int) (r5 : Int) (r6 : Nat) (r7 : ByteArray) (r8 : List (S39)) (w : World) (h : spec_textNode.f a0 a1 = some (r1, r2, r3, r4, r5, r6, r7, r8)) :
    Calls Tryz.prog 15 #[.string a0, .string a1] w fun e w' => ∃ v7_ : Value, e = .returned (.agg #[.string r1, .int .i64 r2, .bool r3, .int .i64 r4, .int .u64 r5, .float .f64 r6, .string r7, v7_]) ∧ Kd.R k39 39 w' w.heap.size (fun _ => True) v7_ r8 ∧ Below w.heap.size w w' := by
  have hu39 := Tryz.underlying39
  have HB := Aside0.mk (Below.refl w.heap.size w)
  have H : (some (a0, 5, false, 0, 0, (0 : Nat), a1, ([] : List (S39)))) = some (r1, r2, r3, r4, r5, r6, r7, r8) := h
  clear h
  simp only [Option.some.injEq, Prod.mk.injEq] at H
  obtain ⟨rfl, rfl, rfl, rfl, rfl, rfl, rfl, rfl⟩ := H
  go_enter Tryz.func15, Tryz.ntmps15
  go_wp2_with (first | ((with_reducible refine gate_dst (N := 4) rfl ?_); refine box_event ?hg (N := 4) ?hd (cs := #[.string (⟨#[]⟩ : ByteArray), .int .i64 0, .bool false, .int .i64 0, .int .u64 0, .float .f64 (0 : Nat), .string (⟨#[]⟩ : ByteArray), .slice none 0 0]) (t := 39) ?hr ?_; (case hd => rfl); (case hg => rfl); (case hr => first | (go_simp; done) | (go_simp; rfl)); intro gb253 hg w3 hbox hb; have n0_ := Aside0.mk (below_step (by repeat (first | (with_reducible first | exact HB.out | apply below_alloc | apply pw_below_drewN | apply below_drew1) | exact HB.out)) hb); have n1_ := Aside0.mk (hbox); have n2_ := Aside0.mk ((by rw [hg]; exact (below_size (by repeat (first | (with_reducible first | exact HB.out | apply below_alloc | apply pw_below_drewN | apply below_drew1) | exact HB.out))) : w.heap.size ≤ gb253)); have n3_ := Aside0.mk ((by rw [hg]; exact (below_size (by repeat (first | (with_reducible first | exact HB.out | apply below_alloc | apply pw_below_drewN | apply below_drew1) | exact HB.out))) : w.heap.size ≤ gb253)); clear HB; have HB := n0_; have BK253 := n1_; have GW253 := n2_; have GE253 := n3_; clear n0_ n1_ n2_ n3_; clear hb hbox hg; have hcz4_0 : w3.cell? ⟨gb253, 0, none⟩ = some (.string (⟨#[]⟩ : ByteArray)) := (blk_cell BK253.out 0).trans rfl; have hcz4_1 : w3.cell? ⟨gb253, 1, none⟩ = some (.int .i64 0) := (blk_cell BK253.out 1).trans rfl; have hcz4_2 : w3.cell? ⟨gb253, 2, none⟩ = some (.bool false) := (blk_cell BK253.out 2).trans rfl; have hcz4_3 : w3.cell? ⟨gb253, 3, none⟩ = some (.int .i64 0) := (blk_cell BK253.out 3).trans rfl; have hcz4_4 : w3.cell? ⟨gb253, 4, none⟩ = some (.int .u64 0) := (blk_cell BK253.out 4).trans rfl; have hcz4_5 : w3.cell? ⟨gb253, 5, none⟩ = some (.float .f64 (0 : Nat)) := (blk_cell BK253.out 5).trans rfl; have hcz4_6 : w3.cell? ⟨gb253, 6, none⟩ = some (.string (⟨#[]⟩ : ByteArray)) := (blk_cell BK253.out 6).trans rfl; have hcz4_7 : w3.cell? ⟨gb253, 7, none⟩ = some (.slice none 0 0) := (blk_cell BK253.out 7).trans rfl; have hfz4_0 := blk_frozen BK253.out 0; have hfz4_1 := blk_frozen BK253.out 1; have hfz4_2 := blk_frozen BK253.out 2; have hfz4_3 := blk_frozen BK253.out 3; have hfz4_4 := blk_frozen BK253.out 4; have hfz4_5 := blk_frozen BK253.out 5; have hfz4_6 := blk_frozen BK253.out 6; have hfz4_7 := blk_frozen BK253.out 7))
  refine bodyPost_ret (results_cell_row rfl _ _ gb253 39 #[.string a0, .int .i64 5, .bool false, .int .i64 0, .int .u64 0, .float .f64 (0 : Nat), .string a1, .slice none 0 0] (0, 0) _ rfl (by (with_reducible repeat (first | refine blk_drewN ?_ _ | refine blk_drew ?_ | refine blk_alloc ?_ _)); refine blk_put (cs := #[.string a0, .int .i64 5, .bool false, .int .i64 0, .int .u64 0, .float .f64 (0 : Nat), .string a1, .slice none 0 0]) ?_ 7 _ rfl; (with_reducible repeat (first | refine blk_drewN ?_ _ | refine blk_drew ?_ | refine blk_alloc ?_ _)); refine blk_put (cs := #[.string a0, .int .i64 5, .bool false, .int .i64 0, .int .u64 0, .float .f64 (0 : Nat), .string (⟨#[]⟩ : ByteArray), .slice none 0 0]) ?_ 6 _ rfl; (with_reducible repeat (first | refine blk_drewN ?_ _ | refine blk_drew ?_ | refine blk_alloc ?_ _)); refine blk_put (cs := #[.string a0, .int .i64 5, .bool false, .int .i64 0, .int .u64 0, .float .f64 (0 : Nat), .string (⟨#[]⟩ : ByteArray), .slice none 0 0]) ?_ 5 _ rfl; (with_reducible repeat (first | refine blk_drewN ?_ _ | refine blk_drew ?_ | refine blk_alloc ?_ _)); refine blk_put (cs := #[.string a0, .int .i64 5, .bool false, .int .i64 0, .int .u64 0, .float .f64 (0 : Nat), .string (⟨#[]⟩ : ByteArray), .slice none 0 0]) ?_ 4 _ rfl; (with_reducible repeat (first | refine blk_drewN ?_ _ | refine blk_drew ?_ | refine blk_alloc ?_ _)); refine blk_put (cs := #[.string a0, .int .i64 5, .bool false, .int .i64 0, .int .u64 0, .float .f64 (0 : Nat), .string (⟨#[]⟩ : ByteArray), .slice none 0 0]) ?_ 3 _ rfl; (with_reducible repeat (first | refine blk_drewN ?_ _ | refine blk_drew ?_ | refine blk_alloc ?_ _)); refine blk_put (cs := #[.string a0, .int .i64 5, .bool false, .int .i64 0, .int .u64 0, .float .f64 (0 : Nat), .string (⟨#[]⟩ : ByteArray), .slice none 0 0]) ?_ 2 _ rfl; (with_reducible repeat (first | refine blk_drewN ?_ _ | refine blk_drew ?_ | refine blk_alloc ?_ _)); refine blk_put (cs := #[.string a0, .int .i64 0, .bool false, .int .i64 0, .int .u64 0, .float .f64 (0 : Nat), .string (⟨#[]⟩ : ByteArray), .slice none 0 0]) ?_ 1 _ rfl; (with_reducible repeat (first | refine blk_drewN ?_ _ | refine blk_drew ?_ | refine blk_alloc ?_ _)); refine blk_put (cs := #[.string (⟨#[]⟩ : ByteArray), .int .i64 0, .bool false, .int .i64 0, .int .u64 0, .float .f64 (0 : Nat), .string (⟨#[]⟩ : ByteArray), .slice none 0 0]) ?_ 0 _ rfl; (with_reducible repeat (first | refine blk_drewN ?_ _ | refine blk_drew ?_ | refine blk_alloc ?_ _)); exact BK253.out) Tryz.underlying39 rfl (by kernel_rfl)) rfl ?_
  exact ⟨_, by first | rfl | (simp [errW_none, errW_some] <;> rfl) | (simp [*, errW_none, errW_some] <;> rfl), by first | exact Kd.R_nil _ _ _ _ _ | exact Kd.N_nil _ _ _ _ _ | exact Kd.V_nil _ _ _ _ _ | exact Kd.Q_nil _ _ _ _ _ | exact Kd.S_nil _ _ _ _ _, by repeat (first | (with_reducible first | exact HB.out | apply below_alloc | apply pw_below_drewN | apply below_drew1 | refine below_set ?_ GE253.out) | exact HB.out)⟩

end Go.Proofs.YtfcalbjebomgcaaGreatDoor.Q

-- Written by a program of this claim's session (after the kit's print, with a kind for float64). Lean checks it.
namespace Go.Proofs.YtfcalbjebomgcaaGreatDoor.Q
open Go.RowKit Go.Proofs.YtfcalbjebomgcaaGreatDoorW.PrintWords Go.Proofs.YtfcalbjebomgcaaGreatDoorW.PrintLast Go.Proofs.YtfcalbjebomgcaaGreatDoorW.PrintMore
attribute [local go_sem] max2_int min2_int max_two min_two max_three min_three max_four min_four run_store_float   -- for this text's walks alone
set_option linter.unusedVariables false
set_option linter.unusedSimpArgs false

/-! ### spec_recordNode: function 19 -/
def spec_recordNode.f (a0 : ByteArray) (l1 : List (S39)) : Option (ByteArray × Int × Bool × Int × Int × Nat × ByteArray × (List (S39))) := some (a0, 8, false, 0, 0, (0 : Nat), (⟨#[]⟩ : ByteArray), l1)
set_option maxHeartbeats 8000000 in
set_option maxRecDepth 100000 in
theorem spec_recordNode.calls (a0 : ByteArray) (P1_ : Nat → Prop) (A1 : Option Addr) (c1 : Nat) (l1 : List (S39)) (r1 : ByteArray) (r2 : Int) (r3 : Bool) (r4 : Int) (r5 : Int) (r6 : Nat) (r7 : ByteArray) (r8 : List (S39)) (w : World) (hs1 : Kd.V k39 39 w w.heap.size (fun k_ => P1_ k_) (.slice A1 l1.length c1) l1) (h : spec_recordNode.f a0 l1 = some (r1, r2, r3, r4, r5, r6, r7, r8)) :
    Calls Tryz.prog 19 #[.string a0, .slice A1 l1.length c1] w fun e w' => ∃ v7_ : Value, e = .returned (.agg #[.string r1, .int .i64 r2, .bool r3, .int .i64 r4, .int .u64 r5, .float .f64 r6, .string r7, v7_]) ∧ Kd.V k39 39 w' w.heap.size (fun k_ => (P1_ k_ ∨ w.heap.size ≤ k_)) v7_ r8 ∧ Below w.heap.size w w' := by
  have hu39 := Tryz.underlying39
  have HO1 := Aside0.mk (show Kd.V k39 39 w w.heap.size (fun k_ => (P1_ k_ ∨ w.heap.size ≤ k_)) (.slice A1 l1.length c1) l1 from Kd.V_mono hs1 (fun k_ hk => .inl hk))
  have HB := Aside0.mk (Below.refl w.heap.size w)
  have H : (some (a0, 8, false, 0, 0, (0 : Nat), (⟨#[]⟩ : ByteArray), l1)) = some (r1, r2, r3, r4, r5, r6, r7, r8) := h
  clear h
  simp only [Option.some.injEq, Prod.mk.injEq] at H
  obtain ⟨rfl, rfl, rfl, rfl, rfl, rfl, rfl, rfl⟩ := H
  go_enter Tryz.func19, Tryz.ntmps19
  go_wp2_with (first | ((with_reducible refine gate_dst (N := 4) rfl ?_); refine box_event ?hg (N := 4) ?hd (cs := #[.string (⟨#[]⟩ : ByteArray), .int .i64 0, .bool false, .int .i64 0, .int .u64 0, .float .f64 (0 : Nat), .string (⟨#[]⟩ : ByteArray), .slice none 0 0]) (t := 39) ?hr ?_; (case hd => rfl); (case hg => rfl); (case hr => first | (go_simp; done) | (go_simp; rfl)); intro gb257 hg w3 hbox hb; have n0_ := Aside0.mk (Kd.V_below (Kd.V_elderB (by (with_reducible repeat (first | apply Kd.V_alloc | apply Kd.V_drewN | apply Kd.V_drew)); exact HO1.out) gb257 (Nat.le_of_eq hg.symm)) hb); have n1_ := Aside0.mk (below_step (by repeat (first | (with_reducible first | exact HB.out | apply below_alloc | apply pw_below_drewN | apply below_drew1) | exact HB.out)) hb); have n2_ := Aside0.mk (hbox); have n3_ := Aside0.mk ((by rw [hg]; exact (below_size (by repeat (first | (with_reducible first | exact HB.out | apply below_alloc | apply pw_below_drewN | apply below_drew1) | exact HB.out))) : w.heap.size ≤ gb257)); have n4_ := Aside0.mk ((by rw [hg]; exact (below_size (by repeat (first | (with_reducible first | exact HB.out | apply below_alloc | apply pw_below_drewN | apply below_drew1) | exact HB.out))) : w.heap.size ≤ gb257)); clear HO1; clear HB; have HO1 := n0_; have HB := n1_; have BK257 := n2_; have GW257 := n3_; have GE257 := n4_; clear n0_ n1_ n2_ n3_ n4_; clear hb hbox hg; have hcz4_0 : w3.cell? ⟨gb257, 0, none⟩ = some (.string (⟨#[]⟩ : ByteArray)) := (blk_cell BK257.out 0).trans rfl; have hcz4_1 : w3.cell? ⟨gb257, 1, none⟩ = some (.int .i64 0) := (blk_cell BK257.out 1).trans rfl; have hcz4_2 : w3.cell? ⟨gb257, 2, none⟩ = some (.bool false) := (blk_cell BK257.out 2).trans rfl; have hcz4_3 : w3.cell? ⟨gb257, 3, none⟩ = some (.int .i64 0) := (blk_cell BK257.out 3).trans rfl; have hcz4_4 : w3.cell? ⟨gb257, 4, none⟩ = some (.int .u64 0) := (blk_cell BK257.out 4).trans rfl; have hcz4_5 : w3.cell? ⟨gb257, 5, none⟩ = some (.float .f64 (0 : Nat)) := (blk_cell BK257.out 5).trans rfl; have hcz4_6 : w3.cell? ⟨gb257, 6, none⟩ = some (.string (⟨#[]⟩ : ByteArray)) := (blk_cell BK257.out 6).trans rfl; have hcz4_7 : w3.cell? ⟨gb257, 7, none⟩ = some (.slice none 0 0) := (blk_cell BK257.out 7).trans rfl; have hfz4_0 := blk_frozen BK257.out 0; have hfz4_1 := blk_frozen BK257.out 1; have hfz4_2 := blk_frozen BK257.out 2; have hfz4_3 := blk_frozen BK257.out 3; have hfz4_4 := blk_frozen BK257.out 4; have hfz4_5 := blk_frozen BK257.out 5; have hfz4_6 := blk_frozen BK257.out 6; have hfz4_7 := blk_frozen BK257.out 7))
  refine bodyPost_ret (results_cell_row rfl _ _ gb257 39 #[.string a0, .int .i64 8, .bool false, .int .i64 0, .int .u64 0, .float .f64 (0 : Nat), .string (⟨#[]⟩ : ByteArray), .slice A1 l1.length c1] (0, 0) _ rfl (by (with_reducible repeat (first | refine blk_drewN ?_ _ | refine blk_drew ?_ | refine blk_alloc ?_ _)); refine blk_put (cs := #[.string a0, .int .i64 8, .bool false, .int .i64 0, .int .u64 0, .float .f64 (0 : Nat), .string (⟨#[]⟩ : ByteArray), .slice none 0 0]) ?_ 7 _ rfl; (with_reducible repeat (first | refine blk_drewN ?_ _ | refine blk_drew ?_ | refine blk_alloc ?_ _)); refine blk_put (cs := #[.string a0, .int .i64 8, .bool false, .int .i64 0, .int .u64 0, .float .f64 (0 : Nat), .string (⟨#[]⟩ : ByteArray), .slice none 0 0]) ?_ 6 _ rfl; (with_reducible repeat (first | refine blk_drewN ?_ _ | refine blk_drew ?_ | refine blk_alloc ?_ _)); refine blk_put (cs := #[.string a0, .int .i64 8, .bool false, .int .i64 0, .int .u64 0, .float .f64 (0 : Nat), .string (⟨#[]⟩ : ByteArray), .slice none 0 0]) ?_ 5 _ rfl; (with_reducible repeat (first | refine blk_drewN ?_ _ | refine blk_drew ?_ | refine blk_alloc ?_ _)); refine blk_put (cs := #[.string a0, .int .i64 8, .bool false, .int .i64 0, .int .u64 0, .float .f64 (0 : Nat), .string (⟨#[]⟩ : ByteArray), .slice none 0 0]) ?_ 4 _ rfl; (with_reducible repeat (first | refine blk_drewN ?_ _ | refine blk_drew ?_ | refine blk_alloc ?_ _)); refine blk_put (cs := #[.string a0, .int .i64 8, .bool false, .int .i64 0, .int .u64 0, .float .f64 (0 : Nat), .string (⟨#[]⟩ : ByteArray), .slice none 0 0]) ?_ 3 _ rfl; (with_reducible repeat (first | refine blk_drewN ?_ _ | refine blk_drew ?_ | refine blk_alloc ?_ _)); refine blk_put (cs := #[.string a0, .int .i64 8, .bool false, .int .i64 0, .int .u64 0, .float .f64 (0 : Nat), .string (⟨#[]⟩ : ByteArray), .slice none 0 0]) ?_ 2 _ rfl; (with_reducible repeat (first | refine blk_drewN ?_ _ | refine blk_drew ?_ | refine blk_alloc ?_ _)); refine blk_put (cs := #[.string a0, .int .i64 0, .bool false, .int .i64 0, .int .u64 0, .float .f64 (0 : Nat), .string (⟨#[]⟩ : ByteArray), .slice none 0 0]) ?_ 1 _ rfl; (with_reducible repeat (first | refine blk_drewN ?_ _ | refine blk_drew ?_ | refine blk_alloc ?_ _)); refine blk_put (cs := #[.string (⟨#[]⟩ : ByteArray), .int .i64 0, .bool false, .int .i64 0, .int .u64 0, .float .f64 (0 : Nat), .string (⟨#[]⟩ : ByteArray), .slice none 0 0]) ?_ 0 _ rfl; (with_reducible repeat (first | refine blk_drewN ?_ _ | refine blk_drew ?_ | refine blk_alloc ?_ _)); exact BK257.out) Tryz.underlying39 rfl (by kernel_rfl)) rfl ?_
  exact ⟨_, by first | rfl | (simp [errW_none, errW_some] <;> rfl) | (simp [*, errW_none, errW_some] <;> rfl), by (with_reducible repeat (first | apply Kd.V_alloc | apply Kd.V_drewN | apply Kd.V_drew)); exact Kd.V_mono (Kd.V_far (p := ⟨gb257, 7, none⟩) (Kd.V_far (p := ⟨gb257, 6, none⟩) (Kd.V_far (p := ⟨gb257, 5, none⟩) (Kd.V_far (p := ⟨gb257, 4, none⟩) (Kd.V_far (p := ⟨gb257, 3, none⟩) (Kd.V_far (p := ⟨gb257, 2, none⟩) (Kd.V_far (p := ⟨gb257, 1, none⟩) (Kd.V_far (p := ⟨gb257, 0, none⟩) (Kd.V_mono HO1.out (fun k_ hk => (⟨hk, hk.2⟩ : _ ∧ k_ ≠ gb257))) (fun _ hk => hk.2) (.string a0)) (fun _ hk => hk.2) (.int .i64 8)) (fun _ hk => hk.2) (.bool false)) (fun _ hk => hk.2) (.int .i64 0)) (fun _ hk => hk.2) (.int .u64 0)) (fun _ hk => hk.2) (.float .f64 (0 : Nat))) (fun _ hk => hk.2) (.string (⟨#[]⟩ : ByteArray))) (fun _ hk => hk.2) (.slice A1 l1.length c1)) (fun _ hk => hk.1.1), by repeat (first | (with_reducible first | exact HB.out | apply below_alloc | apply pw_below_drewN | apply below_drew1 | refine below_set ?_ GE257.out) | exact HB.out)⟩

end Go.Proofs.YtfcalbjebomgcaaGreatDoor.Q

-- Written by a program of this claim's session (after the kit's print, with a kind for float64). Lean checks it.
namespace Go.Proofs.YtfcalbjebomgcaaGreatDoor.Q
open Go.RowKit Go.Proofs.YtfcalbjebomgcaaGreatDoorW.PrintWords Go.Proofs.YtfcalbjebomgcaaGreatDoorW.PrintLast Go.Proofs.YtfcalbjebomgcaaGreatDoorW.PrintMore
attribute [local go_sem] max2_int min2_int max_two min_two max_three min_three max_four min_four run_store_float   -- for this text's walks alone
set_option linter.unusedVariables false
set_option linter.unusedSimpArgs false

/-! ### spec_uintNode: function 36 -/
def spec_uintNode.f (a0 : ByteArray) (a1 : Int) : Option (ByteArray × Int × Bool × Int × Int × Nat × ByteArray × (List (S39))) := some (a0, 3, false, 0, a1, (0 : Nat), (⟨#[]⟩ : ByteArray), ([] : List (S39)))
set_option maxHeartbeats 8000000 in
set_option maxRecDepth 100000 in
theorem spec_uintNode.calls (a0 : ByteArray) (a1 : Int) (r1 : ByteArray) (r2 : Int) (r3 : Bool) (r4 : Int) (r5 : Int) (r6 : Nat) (r7 : ByteArray) (r8 : List (S39)) (w : World) (h : spec_uintNode.f a0 a1 = some (r1, r2, r3, r4, r5, r6, r7, r8)) :
    Calls Tryz.prog 36 #[.string a0, .int .u64 a1] w fun e w' => ∃ v7_ : Value, e = .returned (.agg #[.string r1, .int .i64 r2, .bool r3, .int .i64 r4, .int .u64 r5, .float .f64 r6, .string r7, v7_]) ∧ Kd.R k39 39 w' w.heap.size (fun _ => True) v7_ r8 ∧ Below w.heap.size w w' := by
  have hu39 := Tryz.underlying39
  have HB := Aside0.mk (Below.refl w.heap.size w)
  have H : (some (a0, 3, false, 0, a1, (0 : Nat), (⟨#[]⟩ : ByteArray), ([] : List (S39)))) = some (r1, r2, r3, r4, r5, r6, r7, r8) := h
  clear h
  simp only [Option.some.injEq, Prod.mk.injEq] at H
  obtain ⟨rfl, rfl, rfl, rfl, rfl, rfl, rfl, rfl⟩ := H
  go_enter Tryz.func36, Tryz.ntmps36
  go_wp2_with (first | ((with_reducible refine gate_dst (N := 4) rfl ?_); refine box_event ?hg (N := 4) ?hd (cs := #[.string (⟨#[]⟩ : ByteArray), .int .i64 0, .bool false, .int .i64 0, .int .u64 0, .float .f64 (0 : Nat), .string (⟨#[]⟩ : ByteArray), .slice none 0 0]) (t := 39) ?hr ?_; (case hd => rfl); (case hg => rfl); (case hr => first | (go_simp; done) | (go_simp; rfl)); intro gb258 hg w3 hbox hb; have n0_ := Aside0.mk (below_step (by repeat (first | (with_reducible first | exact HB.out | apply below_alloc | apply pw_below_drewN | apply below_drew1) | exact HB.out)) hb); have n1_ := Aside0.mk (hbox); have n2_ := Aside0.mk ((by rw [hg]; exact (below_size (by repeat (first | (with_reducible first | exact HB.out | apply below_alloc | apply pw_below_drewN | apply below_drew1) | exact HB.out))) : w.heap.size ≤ gb258)); have n3_ := Aside0.mk ((by rw [hg]; exact (below_size (by repeat (first | (with_reducible first | exact HB.out | apply below_alloc | apply pw_below_drewN | apply below_drew1) | exact HB.out))) : w.heap.size ≤ gb258)); clear HB; have HB := n0_; have BK258 := n1_; have GW258 := n2_; have GE258 := n3_; clear n0_ n1_ n2_ n3_; clear hb hbox hg; have hcz4_0 : w3.cell? ⟨gb258, 0, none⟩ = some (.string (⟨#[]⟩ : ByteArray)) := (blk_cell BK258.out 0).trans rfl; have hcz4_1 : w3.cell? ⟨gb258, 1, none⟩ = some (.int .i64 0) := (blk_cell BK258.out 1).trans rfl; have hcz4_2 : w3.cell? ⟨gb258, 2, none⟩ = some (.bool false) := (blk_cell BK258.out 2).trans rfl; have hcz4_3 : w3.cell? ⟨gb258, 3, none⟩ = some (.int .i64 0) := (blk_cell BK258.out 3).trans rfl; have hcz4_4 : w3.cell? ⟨gb258, 4, none⟩ = some (.int .u64 0) := (blk_cell BK258.out 4).trans rfl; have hcz4_5 : w3.cell? ⟨gb258, 5, none⟩ = some (.float .f64 (0 : Nat)) := (blk_cell BK258.out 5).trans rfl; have hcz4_6 : w3.cell? ⟨gb258, 6, none⟩ = some (.string (⟨#[]⟩ : ByteArray)) := (blk_cell BK258.out 6).trans rfl; have hcz4_7 : w3.cell? ⟨gb258, 7, none⟩ = some (.slice none 0 0) := (blk_cell BK258.out 7).trans rfl; have hfz4_0 := blk_frozen BK258.out 0; have hfz4_1 := blk_frozen BK258.out 1; have hfz4_2 := blk_frozen BK258.out 2; have hfz4_3 := blk_frozen BK258.out 3; have hfz4_4 := blk_frozen BK258.out 4; have hfz4_5 := blk_frozen BK258.out 5; have hfz4_6 := blk_frozen BK258.out 6; have hfz4_7 := blk_frozen BK258.out 7))
  refine bodyPost_ret (results_cell_row rfl _ _ gb258 39 #[.string a0, .int .i64 3, .bool false, .int .i64 0, .int .u64 a1, .float .f64 (0 : Nat), .string (⟨#[]⟩ : ByteArray), .slice none 0 0] (0, 0) _ rfl (by (with_reducible repeat (first | refine blk_drewN ?_ _ | refine blk_drew ?_ | refine blk_alloc ?_ _)); refine blk_put (cs := #[.string a0, .int .i64 3, .bool false, .int .i64 0, .int .u64 a1, .float .f64 (0 : Nat), .string (⟨#[]⟩ : ByteArray), .slice none 0 0]) ?_ 7 _ rfl; (with_reducible repeat (first | refine blk_drewN ?_ _ | refine blk_drew ?_ | refine blk_alloc ?_ _)); refine blk_put (cs := #[.string a0, .int .i64 3, .bool false, .int .i64 0, .int .u64 a1, .float .f64 (0 : Nat), .string (⟨#[]⟩ : ByteArray), .slice none 0 0]) ?_ 6 _ rfl; (with_reducible repeat (first | refine blk_drewN ?_ _ | refine blk_drew ?_ | refine blk_alloc ?_ _)); refine blk_put (cs := #[.string a0, .int .i64 3, .bool false, .int .i64 0, .int .u64 a1, .float .f64 (0 : Nat), .string (⟨#[]⟩ : ByteArray), .slice none 0 0]) ?_ 5 _ rfl; (with_reducible repeat (first | refine blk_drewN ?_ _ | refine blk_drew ?_ | refine blk_alloc ?_ _)); refine blk_put (cs := #[.string a0, .int .i64 3, .bool false, .int .i64 0, .int .u64 0, .float .f64 (0 : Nat), .string (⟨#[]⟩ : ByteArray), .slice none 0 0]) ?_ 4 _ rfl; (with_reducible repeat (first | refine blk_drewN ?_ _ | refine blk_drew ?_ | refine blk_alloc ?_ _)); refine blk_put (cs := #[.string a0, .int .i64 3, .bool false, .int .i64 0, .int .u64 0, .float .f64 (0 : Nat), .string (⟨#[]⟩ : ByteArray), .slice none 0 0]) ?_ 3 _ rfl; (with_reducible repeat (first | refine blk_drewN ?_ _ | refine blk_drew ?_ | refine blk_alloc ?_ _)); refine blk_put (cs := #[.string a0, .int .i64 3, .bool false, .int .i64 0, .int .u64 0, .float .f64 (0 : Nat), .string (⟨#[]⟩ : ByteArray), .slice none 0 0]) ?_ 2 _ rfl; (with_reducible repeat (first | refine blk_drewN ?_ _ | refine blk_drew ?_ | refine blk_alloc ?_ _)); refine blk_put (cs := #[.string a0, .int .i64 0, .bool false, .int .i64 0, .int .u64 0, .float .f64 (0 : Nat), .string (⟨#[]⟩ : ByteArray), .slice none 0 0]) ?_ 1 _ rfl; (with_reducible repeat (first | refine blk_drewN ?_ _ | refine blk_drew ?_ | refine blk_alloc ?_ _)); refine blk_put (cs := #[.string (⟨#[]⟩ : ByteArray), .int .i64 0, .bool false, .int .i64 0, .int .u64 0, .float .f64 (0 : Nat), .string (⟨#[]⟩ : ByteArray), .slice none 0 0]) ?_ 0 _ rfl; (with_reducible repeat (first | refine blk_drewN ?_ _ | refine blk_drew ?_ | refine blk_alloc ?_ _)); exact BK258.out) Tryz.underlying39 rfl (by kernel_rfl)) rfl ?_
  exact ⟨_, by first | rfl | (simp [errW_none, errW_some] <;> rfl) | (simp [*, errW_none, errW_some] <;> rfl), by first | exact Kd.R_nil _ _ _ _ _ | exact Kd.N_nil _ _ _ _ _ | exact Kd.V_nil _ _ _ _ _ | exact Kd.Q_nil _ _ _ _ _ | exact Kd.S_nil _ _ _ _ _, by repeat (first | (with_reducible first | exact HB.out | apply below_alloc | apply pw_below_drewN | apply below_drew1 | refine below_set ?_ GE258.out) | exact HB.out)⟩

end Go.Proofs.YtfcalbjebomgcaaGreatDoor.Q
