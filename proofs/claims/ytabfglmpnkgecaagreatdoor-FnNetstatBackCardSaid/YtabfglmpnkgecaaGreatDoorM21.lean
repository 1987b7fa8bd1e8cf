-- Written by a program of this claim's session (after the kit's print, with a kind for float64). Lean checks it.
import Derived.Test.YtabfglmpnkgecaaGreatDoorM01
import Derived.Test.YtabfglmpnkgecaaGreatDoorM20
import Derived.Test.YtabfglmpnkgecaaGreatDoorM11
import Derived.StillTailTactics
import Derived.Laws.Externs
set_option linter.unusedVariables false
set_option linter.unusedSimpArgs false
namespace Go.Proofs.YtabfglmpnkgecaaGreatDoor.Q
open Go.RowKit Go.Proofs.YtabfglmpnkgecaaGreatDoorW.PrintWords Go.Proofs.YtabfglmpnkgecaaGreatDoorW.PrintLast Go.Proofs.YtabfglmpnkgecaaGreatDoorW.PrintMore
attribute [local go_sem] max2_int min2_int max_two min_two max_three min_three max_four min_four   -- for this text's walks alone
set_option linter.unusedVariables false
set_option linter.unusedSimpArgs false

/-! ### laws_zzFits5: function 4 -/
def laws_zzFits5.l0 : Nat → List (S31) → Int → Int → Option (Bool)
  | 0, _, _, _ => none
  | k + 1, x8, x9, x10 => if x10 < x9 then (if 0 ≤ x10 then (if x10 < (x8.length : Int) then ((laws_zzFits6.f k ((rd_T31 x8 x10).f0) ((rd_T31 x8 x10).f1) ((rd_T31 x8 x10).f2)).bind fun t106 => (if t106 = true then (laws_zzFits5.l0 k x8 x9 (wrap64 (x10 + 1))) else (some false))) else (none)) else (none)) else (some true)
def laws_zzFits5.f (k : Nat) (l0 : List (S31)) : Option (Bool) := if (l0.length : Int) > 2147483647 then (some false) else (laws_zzFits5.l0 k l0 (l0.length : Int) 0)
theorem laws_zzFits5.mono_l : ∀ k, (∀ y0 y1 y2, LeO (laws_zzFits5.l0 k y0 y1 y2) (laws_zzFits5.l0 (k + 1) y0 y1 y2))
  | 0 => fun _ _ _ r h => by simp [laws_zzFits5.l0] at h
  | k + 1 => by
    have ih0 := laws_zzFits5.mono_l k
    · intro y0 y1 y2
      unfold laws_zzFits5.l0
      repeat' first
      | (with_reducible exact ih0 _ _ _)
      | (with_reducible exact laws_zzFits6.mono _ _ _ _)
      | (with_reducible exact LeO.refl _)
      | (with_reducible exact LeO.none _)
      | (with_reducible refine LeO.ite ?_ ?_)
      | (with_reducible refine LeO.bind ?_ (fun _ => ?_))
      | exact ih0 _ _ _
      | exact laws_zzFits6.mono _ _ _ _
      | exact LeO.none _
      | refine LeO.ite ?_ ?_
      | refine LeO.bind ?_ (fun _ => ?_)
theorem laws_zzFits5.mono : ∀ a0 k, LeO (laws_zzFits5.f k a0) (laws_zzFits5.f (k + 1) a0) := by
  intro a0 k
  have ih0 := laws_zzFits5.mono_l k
  unfold laws_zzFits5.f
  repeat' first
      | (with_reducible exact ih0 _ _ _)
      | (with_reducible exact laws_zzFits6.mono _ _ _ _)
      | (with_reducible exact LeO.refl _)
      | (with_reducible exact LeO.none _)
      | (with_reducible refine LeO.ite ?_ ?_)
      | (with_reducible refine LeO.bind ?_ (fun _ => ?_))
      | exact ih0 _ _ _
      | exact laws_zzFits6.mono _ _ _ _
      | exact LeO.none _
      | refine LeO.ite ?_ ?_
      | refine LeO.bind ?_ (fun _ => ?_)
set_option maxHeartbeats 8000000 in
set_option maxRecDepth 100000 in
theorem laws_zzFits5.calls (k : Nat) (A0 : Option Addr) (c0 : Nat) (l0 : List (S31)) (r : Bool) (w : World) (hr0 : Kd.C k31 w A0 l0.length l0) (hc0 : l0.length ≤ c0) (h : laws_zzFits5.f k l0 = some r) :
    Calls Tryz.prog 4 #[.slice A0 l0.length c0] w fun e w' => e = .returned (.bool r) ∧ Below w.heap.size w w' := by
  have hu31 := Tryz.underlying31
  have HR0 := Aside0.mk hr0
  have HC0 := Aside0.mk hc0
  clear hr0 hc0
  have HB := Aside0.mk (Below.refl w.heap.size w)
  have H : (if (l0.length : Int) > 2147483647 then (some false) else (laws_zzFits5.l0 k l0 (l0.length : Int) 0)) = some r := h
  clear h
  by_cases c2 : (l0.length : Int) > 2147483647
  · rw [if_pos c2] at H
    have c2b0 : decide (2147483647 < (l0.length : Int)) = true := decide_eq_true c2
    have c2b1 : decide (2147483647 < l0.length) = true := decide_eq_true (by omega)
    clear c2
    obtain rfl := Option.some.inj H
    go_enter Tryz.func4, Tryz.ntmps4
    go_wp2
    go_ret
    exact ⟨by first | rfl | (simp [errW_none, errW_some] <;> rfl) | (simp [*, errW_none, errW_some] <;> rfl), by repeat (first | (with_reducible first | exact HB.out | apply below_alloc | apply pw_below_drewN | apply below_drew1) | exact HB.out)⟩
  · rw [if_neg c2] at H
    have c2b0 : decide (2147483647 < (l0.length : Int)) = false := decide_eq_false c2
    have c2b1 : decide (2147483647 < l0.length) = false := decide_eq_false (by omega)
    clear c2
    have H' := Aside0.mk H
    clear H
    go_enter Tryz.func4, Tryz.ntmps4
    go_wp2
    go_loopg [10] k (fun kq v10 w' => ∃ (x10_1 : Int), v10 = .int .i64 x10_1 ∧ Aside0 (laws_zzFits5.l0 kq l0 (l0.length : Int) x10_1 = some r) ∧ Aside0 (kq ≤ k) ∧ Aside0 (Below w.heap.size w w'))
    case atStart => exact ⟨(0), (by first | rfl | (simp; done) | (simp [*]; done)), H', ⟨Nat.le_refl _⟩, ⟨by repeat (first | (with_reducible first | exact HB.out | apply below_alloc | apply pw_below_drewN | apply below_drew1) | exact HB.out)⟩⟩
    case round =>
      clear H'
      try clear c2
      try clear c2b0
      try clear c2b1
      try clear p2
      obtain ⟨x10_1, rfl, HA, HK1, HB⟩ := hrel
      cases gk with
      | zero => exact absurd HA.out (by simp [laws_zzFits5.l0])
      | succ k1 =>
        have H := HA.out
        clear HA
        simp only [laws_zzFits5.l0] at H
        by_cases c3 : x10_1 < (l0.length : Int)
        · rw [if_pos c3] at H
          have c3b0 : decide (x10_1 < (l0.length : Int)) = true := decide_eq_true c3
          clear c3
          by_cases c4 : 0 ≤ x10_1
          · rw [if_pos c4] at H
            have c4b0 : decide (0 ≤ x10_1) = true := decide_eq_true c4
            clear c4
            by_cases c5 : x10_1 < (l0.length : Int)
            · rw [if_pos c5] at H
              have c5b0 : decide (x10_1 < (l0.length : Int)) = true := decide_eq_true c5
              clear c5
              replace H := Option.bind_eq_some_iff.mp H
              obtain ⟨t106, A60, H⟩ := H
              replace H : (if t106 = true then (laws_zzFits5.l0 k1 l0 (l0.length : Int) (wrap64 (x10_1 + 1))) else (some false)) = some r := H
              have A6 := Aside0.mk A60
              clear A60
              by_cases c7 : t106 = true
              · subst c7
                have H1 : (laws_zzFits5.l0 k1 l0 (l0.length : Int) (wrap64 (x10_1 + 1))) = some r := by rw [if_pos rfl] at H; exact H
                clear H
                have H := H1
                clear H1
                have H' := Aside0.mk H
                clear H
                have p104 : 0 ≤ (x10_1 : Int) := of_decide_eq_true (by first | (with_reducible assumption) | assumption)
                have q104 : x10_1 < (l0.length : Int) := of_decide_eq_true (by first | (with_reducible assumption) | assumption)
                obtain ⟨ad104, A104_1, c104_1, A104_2, c104_2, e104, hx104_0, hx104_1, hx104_2, hl104_1, hi104_1, hl104_2, hi104_2⟩ := at_T31 HR0.out x10_1 p104 q104
                cases e104
                replace hx104_0 := (HB.out.cell (World.block_lt_of_cell? w _ hx104_0)).trans hx104_0
                replace hx104_1 := (HB.out.cell (World.block_lt_of_cell? w _ hx104_1)).trans hx104_1
                replace hx104_2 := (HB.out.cell (World.block_lt_of_cell? w _ hx104_2)).trans hx104_2
                have HR104_1 := Aside0.mk hi104_1
                have HC104_1 := Aside0.mk hl104_1
                clear hi104_1 hl104_1
                have HR104_2 := Aside0.mk hi104_2
                have HC104_2 := Aside0.mk hl104_2
                clear hi104_2 hl104_2
                replace p104 := eq_true p104
                replace q104 := eq_true q104
                go_wp2_with (first | ((with_reducible refine gate_dst (N := 4) rfl ?_); refine box_event ?hg (N := 4) ?hd (cs := #[.string (⟨#[]⟩ : ByteArray), .slice none 0 0, .slice none 0 0]) (t := 31) ?hr ?_; (case hd => rfl); (case hg => rfl); (case hr => first | (go_simp; done) | (go_simp; rfl)); intro gb105 hg w8 hbox hb; have n0_ := Aside0.mk (below_step (by repeat (first | (with_reducible first | exact HB.out | apply below_alloc | apply pw_below_drewN | apply below_drew1) | exact HB.out)) hb); have n1_ := Aside0.mk (hbox); have n2_ := Aside0.mk ((by rw [hg]; exact (below_size (by repeat (first | (with_reducible first | exact HB.out | apply below_alloc | apply pw_below_drewN | apply below_drew1) | exact HB.out))) : w.heap.size ≤ gb105)); have n3_ := Aside0.mk ((by rw [hg]; exact (below_size (by repeat (first | (with_reducible first | exact HB.out | apply below_alloc | apply pw_below_drewN | apply below_drew1) | exact HB.out))) : w.heap.size ≤ gb105)); clear HB; have HB := n0_; have BK105 := n1_; have GW105 := n2_; have GE105 := n3_; clear n0_ n1_ n2_ n3_; clear hb hbox hg; have hcz9_0 : w8.cell? ⟨gb105, 0, none⟩ = some (.string (⟨#[]⟩ : ByteArray)) := (blk_cell BK105.out 0).trans rfl; have hcz9_1 : w8.cell? ⟨gb105, 1, none⟩ = some (.slice none 0 0) := (blk_cell BK105.out 1).trans rfl; have hcz9_2 : w8.cell? ⟨gb105, 2, none⟩ = some (.slice none 0 0) := (blk_cell BK105.out 2).trans rfl; have hfz9_0 := blk_frozen BK105.out 0; have hfz9_1 := blk_frozen BK105.out 1; have hfz9_2 := blk_frozen BK105.out 2) | ((with_reducible refine gate_callee (f := 9) rfl ?_); refine goesL_ (some 15) rfl rfl Tryz.func9 (by kernel_rfl) rfl #[.agg #[.string ((rd_T31 l0 x10_1).f0), .slice A104_1 ((rd_T31 l0 x10_1).f1).length c104_1, .slice A104_2 ((rd_T31 l0 x10_1).f2).length c104_2]] rfl (by (try simp only [List.map_toArray, List.map_cons, List.map_nil]); first | done | rfl | (simp only [List.length_drop, List.length_take]; rfl)) ?_; (with_reducible refine (laws_zzFits6.calls k1 ((rd_T31 l0 x10_1).f0) _ _ ((rd_T31 l0 x10_1).f1) _ _ ((rd_T31 l0 x10_1).f2) true _ ?side1 ?side2 ?side3 ?side4 A6.out).mono ?_); (case side1 => exact Kd.C_below HR104_1.out (by repeat (first | (with_reducible first | exact HB.out | apply below_alloc | apply pw_below_drewN | apply below_drew1 | refine below_set ?_ GE105.out) | exact HB.out))); (case side2 => exact HC104_1.out); (case side3 => exact Kd.C_below HR104_2.out (by repeat (first | (with_reducible first | exact HB.out | apply below_alloc | apply pw_below_drewN | apply below_drew1 | refine below_set ?_ GE105.out) | exact HB.out))); (case side4 => exact HC104_2.out); rintro e w10 ⟨rfl, hb⟩; refine ⟨_, rfl, ?_⟩; have n0_ := Aside0.mk (blk_below (g := gb105) (o := .cells #[.string ((rd_T31 l0 x10_1).f0), .slice A104_1 ((rd_T31 l0 x10_1).f1).length c104_1, .slice A104_2 ((rd_T31 l0 x10_1).f2).length c104_2] 31 (0, 0)) (by (with_reducible repeat (first | refine blk_drewN ?_ _ | refine blk_drew ?_ | refine blk_alloc ?_ _)); refine blk_put (cs := #[.string ((rd_T31 l0 x10_1).f0), .slice A104_1 ((rd_T31 l0 x10_1).f1).length c104_1, .slice none 0 0]) ?_ 2 _ rfl; (with_reducible repeat (first | refine blk_drewN ?_ _ | refine blk_drew ?_ | refine blk_alloc ?_ _)); refine blk_put (cs := #[.string ((rd_T31 l0 x10_1).f0), .slice none 0 0, .slice none 0 0]) ?_ 1 _ rfl; (with_reducible repeat (first | refine blk_drewN ?_ _ | refine blk_drew ?_ | refine blk_alloc ?_ _)); refine blk_put (cs := #[.string (⟨#[]⟩ : ByteArray), .slice none 0 0, .slice none 0 0]) ?_ 0 _ rfl; (with_reducible repeat (first | refine blk_drewN ?_ _ | refine blk_drew ?_ | refine blk_alloc ?_ _)); exact BK105.out) hb); have n1_ := Aside0.mk (below_step (by repeat (first | (with_reducible first | exact HB.out | apply below_alloc | apply pw_below_drewN | apply below_drew1 | refine below_set ?_ GE105.out) | exact HB.out)) hb); clear BK105; clear HB; have BK105 := n0_; have HB := n1_; clear n0_ n1_; (try clear hb); (try clear hb2); (try clear hk); (try clear hi)))
                go_roundg k1
                case measure => have := HK1.out; omega
                case rel => exact ⟨(wrap64 (x10_1 + 1)), (by first | rfl | (simp; done) | (simp [*]; done)), H', ⟨by have := HK1.out; omega⟩, ⟨by repeat (first | (with_reducible first | exact HB.out | apply below_alloc | apply pw_below_drewN | apply below_drew1 | refine below_set ?_ GE105.out) | exact HB.out)⟩⟩
              · replace c7 := Bool.eq_false_iff.mpr c7
                subst c7
                have H1 : (some false) = some r := by rw [if_neg (show ¬ (false = true) by decide)] at H; exact H
                clear H
                have H := H1
                clear H1
                obtain rfl := Option.some.inj H
                have p104 : 0 ≤ (x10_1 : Int) := of_decide_eq_true (by first | (with_reducible assumption) | assumption)
                have q104 : x10_1 < (l0.length : Int) := of_decide_eq_true (by first | (with_reducible assumption) | assumption)
                obtain ⟨ad104, A104_1, c104_1, A104_2, c104_2, e104, hx104_0, hx104_1, hx104_2, hl104_1, hi104_1, hl104_2, hi104_2⟩ := at_T31 HR0.out x10_1 p104 q104
                cases e104
                replace hx104_0 := (HB.out.cell (World.block_lt_of_cell? w _ hx104_0)).trans hx104_0
                replace hx104_1 := (HB.out.cell (World.block_lt_of_cell? w _ hx104_1)).trans hx104_1
                replace hx104_2 := (HB.out.cell (World.block_lt_of_cell? w _ hx104_2)).trans hx104_2
                have HR104_1 := Aside0.mk hi104_1
                have HC104_1 := Aside0.mk hl104_1
                clear hi104_1 hl104_1
                have HR104_2 := Aside0.mk hi104_2
                have HC104_2 := Aside0.mk hl104_2
                clear hi104_2 hl104_2
                replace p104 := eq_true p104
                replace q104 := eq_true q104
                go_wp2_with (first | ((with_reducible refine gate_dst (N := 4) rfl ?_); refine box_event ?hg (N := 4) ?hd (cs := #[.string (⟨#[]⟩ : ByteArray), .slice none 0 0, .slice none 0 0]) (t := 31) ?hr ?_; (case hd => rfl); (case hg => rfl); (case hr => first | (go_simp; done) | (go_simp; rfl)); intro gb105 hg w11 hbox hb; have n0_ := Aside0.mk (below_step (by repeat (first | (with_reducible first | exact HB.out | apply below_alloc | apply pw_below_drewN | apply below_drew1) | exact HB.out)) hb); have n1_ := Aside0.mk (hbox); have n2_ := Aside0.mk ((by rw [hg]; exact (below_size (by repeat (first | (with_reducible first | exact HB.out | apply below_alloc | apply pw_below_drewN | apply below_drew1) | exact HB.out))) : w.heap.size ≤ gb105)); have n3_ := Aside0.mk ((by rw [hg]; exact (below_size (by repeat (first | (with_reducible first | exact HB.out | apply below_alloc | apply pw_below_drewN | apply below_drew1) | exact HB.out))) : w.heap.size ≤ gb105)); clear HB; have HB := n0_; have BK105 := n1_; have GW105 := n2_; have GE105 := n3_; clear n0_ n1_ n2_ n3_; clear hb hbox hg; have hcz12_0 : w11.cell? ⟨gb105, 0, none⟩ = some (.string (⟨#[]⟩ : ByteArray)) := (blk_cell BK105.out 0).trans rfl; have hcz12_1 : w11.cell? ⟨gb105, 1, none⟩ = some (.slice none 0 0) := (blk_cell BK105.out 1).trans rfl; have hcz12_2 : w11.cell? ⟨gb105, 2, none⟩ = some (.slice none 0 0) := (blk_cell BK105.out 2).trans rfl; have hfz12_0 := blk_frozen BK105.out 0; have hfz12_1 := blk_frozen BK105.out 1; have hfz12_2 := blk_frozen BK105.out 2) | ((with_reducible refine gate_callee (f := 9) rfl ?_); refine goesL_ (some 15) rfl rfl Tryz.func9 (by kernel_rfl) rfl #[.agg #[.string ((rd_T31 l0 x10_1).f0), .slice A104_1 ((rd_T31 l0 x10_1).f1).length c104_1, .slice A104_2 ((rd_T31 l0 x10_1).f2).length c104_2]] rfl (by (try simp only [List.map_toArray, List.map_cons, List.map_nil]); first | done | rfl | (simp only [List.length_drop, List.length_take]; rfl)) ?_; (with_reducible refine (laws_zzFits6.calls k1 ((rd_T31 l0 x10_1).f0) _ _ ((rd_T31 l0 x10_1).f1) _ _ ((rd_T31 l0 x10_1).f2) false _ ?side1 ?side2 ?side3 ?side4 A6.out).mono ?_); (case side1 => exact Kd.C_below HR104_1.out (by repeat (first | (with_reducible first | exact HB.out | apply below_alloc | apply pw_below_drewN | apply below_drew1 | refine below_set ?_ GE105.out) | exact HB.out))); (case side2 => exact HC104_1.out); (case side3 => exact Kd.C_below HR104_2.out (by repeat (first | (with_reducible first | exact HB.out | apply below_alloc | apply pw_below_drewN | apply below_drew1 | refine below_set ?_ GE105.out) | exact HB.out))); (case side4 => exact HC104_2.out); rintro e w13 ⟨rfl, hb⟩; refine ⟨_, rfl, ?_⟩; have n0_ := Aside0.mk (blk_below (g := gb105) (o := .cells #[.string ((rd_T31 l0 x10_1).f0), .slice A104_1 ((rd_T31 l0 x10_1).f1).length c104_1, .slice A104_2 ((rd_T31 l0 x10_1).f2).length c104_2] 31 (0, 0)) (by (with_reducible repeat (first | refine blk_drewN ?_ _ | refine blk_drew ?_ | refine blk_alloc ?_ _)); refine blk_put (cs := #[.string ((rd_T31 l0 x10_1).f0), .slice A104_1 ((rd_T31 l0 x10_1).f1).length c104_1, .slice none 0 0]) ?_ 2 _ rfl; (with_reducible repeat (first | refine blk_drewN ?_ _ | refine blk_drew ?_ | refine blk_alloc ?_ _)); refine blk_put (cs := #[.string ((rd_T31 l0 x10_1).f0), .slice none 0 0, .slice none 0 0]) ?_ 1 _ rfl; (with_reducible repeat (first | refine blk_drewN ?_ _ | refine blk_drew ?_ | refine blk_alloc ?_ _)); refine blk_put (cs := #[.string (⟨#[]⟩ : ByteArray), .slice none 0 0, .slice none 0 0]) ?_ 0 _ rfl; (with_reducible repeat (first | refine blk_drewN ?_ _ | refine blk_drew ?_ | refine blk_alloc ?_ _)); exact BK105.out) hb); have n1_ := Aside0.mk (below_step (by repeat (first | (with_reducible first | exact HB.out | apply below_alloc | apply pw_below_drewN | apply below_drew1 | refine below_set ?_ GE105.out) | exact HB.out)) hb); clear BK105; clear HB; have BK105 := n0_; have HB := n1_; clear n0_ n1_; (try clear hb); (try clear hb2); (try clear hk); (try clear hi)))
                go_ret
                exact ⟨by first | rfl | (simp [errW_none, errW_some] <;> rfl) | (simp [*, errW_none, errW_some] <;> rfl), by repeat (first | (with_reducible first | exact HB.out | apply below_alloc | apply pw_below_drewN | apply below_drew1 | refine below_set ?_ GE105.out) | exact HB.out)⟩
            · rw [if_neg c5] at H
              exact absurd H (by simp)
          · rw [if_neg c4] at H
            exact absurd H (by simp)
        · rw [if_neg c3] at H
          have c3b0 : decide (x10_1 < (l0.length : Int)) = false := decide_eq_false c3
          clear c3
          obtain rfl := Option.some.inj H
          go_wp2
          go_ret
          exact ⟨by first | rfl | (simp [errW_none, errW_some] <;> rfl) | (simp [*, errW_none, errW_some] <;> rfl), by repeat (first | (with_reducible first | exact HB.out | apply below_alloc | apply pw_below_drewN | apply below_drew1) | exact HB.out)⟩

end Go.Proofs.YtabfglmpnkgecaaGreatDoor.Q

/- zzFits5 answers at every list of rows. -/
namespace Go.Proofs.YtabfglmpnkgecaaGreatDoor.X
open Go.RowKit Go.Proofs.YtabfglmpnkgecaaGreatDoorW.PrintWords Go.Proofs.YtabfglmpnkgecaaGreatDoorW.PrintLast Go.Proofs.YtabfglmpnkgecaaGreatDoorW.PrintMore Go.Proofs.YtabfglmpnkgecaaGreatDoor.Q

theorem fits4_l0 (l : List ByteArray) (hl : l.length ≤ 2147483647) : ∀ m i, i + m = l.length → ∃ k r, laws_zzFits4.l0 k l (l.length : Int) (i : Int) = some r
  | 0, i, e => ⟨1, true, by unfold laws_zzFits4.l0; rw [if_neg (by omega)]⟩
  | m + 1, i, e => by
    obtain ⟨k, r, hk⟩ := fits4_l0 l hl m (i + 1) (by omega)
    by_cases hb : ((rdOf ByteArray.empty l (i : Int)).size : Int) > 2147483647
    · exact ⟨k + 1, false, by unfold laws_zzFits4.l0; rw [if_pos (by omega), if_pos (by omega), if_pos (by omega), if_pos hb]⟩
    · refine ⟨k + 1, r, ?_⟩
      unfold laws_zzFits4.l0
      rw [if_pos (by omega), if_pos (by omega), if_pos (by omega), if_neg hb, show wrap64 ((i : Int) + 1) = ((i + 1 : Nat) : Int) by unfold wrap64; omega]
      exact hk
theorem fits4_f (l : List ByteArray) : ∃ k r, laws_zzFits4.f k l = some r := by
  by_cases h : (l.length : Int) > 2147483647
  · exact ⟨0, false, by unfold laws_zzFits4.f; rw [if_pos h]⟩
  · obtain ⟨k, r, hk⟩ := fits4_l0 l (by omega) l.length 0 (by omega)
    exact ⟨k, r, by unfold laws_zzFits4.f; rw [if_neg h]; exact hk⟩
theorem fits6_f (s : ByteArray) (l1 : List Int) (l2 : List ByteArray) : ∃ k r, laws_zzFits6.f k s l1 l2 = some r := by
  obtain ⟨k, r, hk⟩ := fits4_f l2
  by_cases h1 : (s.size : Int) > 2147483647
  · exact ⟨k, false, by unfold laws_zzFits6.f; rw [if_pos h1]⟩
  · by_cases h2 : (l1.length : Int) > 2147483647
    · exact ⟨k, false, by unfold laws_zzFits6.f; rw [if_neg h1, if_pos h2]⟩
    · refine ⟨k, r, ?_⟩
      unfold laws_zzFits6.f
      rw [if_neg h1, if_neg h2, hk]
      cases r <;> rfl
theorem fits6_up {s : ByteArray} {l1 : List Int} {l2 : List ByteArray} {r : Bool} : ∀ m k, laws_zzFits6.f k s l1 l2 = some r → laws_zzFits6.f (k + m) s l1 l2 = some r
  | 0, _, h => h
  | m + 1, k, h => laws_zzFits6.mono _ _ _ (k + m) r (fits6_up m k h)
theorem fits5_up {x : List S31} {y z : Int} {r : Bool} : ∀ m k, laws_zzFits5.l0 k x y z = some r → laws_zzFits5.l0 (k + m) x y z = some r
  | 0, _, h => h
  | m + 1, k, h => laws_zzFits5.mono_l (k + m) _ _ _ r (fits5_up m k h)
theorem fits5_l0 (l : List S31) (hl : l.length ≤ 2147483647) : ∀ m i, i + m = l.length → ∃ k r, laws_zzFits5.l0 k l (l.length : Int) (i : Int) = some r
  | 0, i, e => ⟨1, true, by unfold laws_zzFits5.l0; rw [if_neg (by omega)]⟩
  | m + 1, i, e => by
    obtain ⟨k, r, hk⟩ := fits5_l0 l hl m (i + 1) (by omega)
    obtain ⟨k2, b, hk2⟩ := fits6_f (rd_T31 l (i : Int)).f0 (rd_T31 l (i : Int)).f1 (rd_T31 l (i : Int)).f2
    have hk2' := fits6_up k k2 hk2
    have hk' := fits5_up k2 k hk
    cases b with
    | true =>
      refine ⟨k + k2 + 1, r, ?_⟩
      unfold laws_zzFits5.l0
      rw [if_pos (by omega), if_pos (by omega), if_pos (by omega), Nat.add_comm k k2, hk2']
      simp only [Option.bind_some]
      rw [if_pos trivial, show wrap64 ((i : Int) + 1) = ((i + 1 : Nat) : Int) by unfold wrap64; omega, Nat.add_comm k2 k]
      exact hk'
    | false =>
      refine ⟨k + k2 + 1, false, ?_⟩
      unfold laws_zzFits5.l0
      rw [if_pos (by omega), if_pos (by omega), if_pos (by omega), Nat.add_comm k k2, hk2']
      simp
theorem fits5_f (l : List S31) : ∃ k r, laws_zzFits5.f k l = some r := by
  by_cases h : (l.length : Int) > 2147483647
  · exact ⟨0, false, by unfold laws_zzFits5.f; rw [if_pos h]⟩
  · obtain ⟨k, r, hk⟩ := fits5_l0 l (by omega) l.length 0 (by omega)
    exact ⟨k, r, by unfold laws_zzFits5.f; rw [if_neg h]; exact hk⟩
end Go.Proofs.YtabfglmpnkgecaaGreatDoor.X

/- NetstatTree by contract. -/
namespace Go.Proofs.YtabfglmpnkgecaaGreatDoor.X
open Go.RowKit Go.Proofs.YtabfglmpnkgecaaGreatDoorW.PrintWords Go.Proofs.YtabfglmpnkgecaaGreatDoorW.PrintLast Go.Proofs.YtabfglmpnkgecaaGreatDoorW.PrintMore Go.Proofs.YtabfglmpnkgecaaGreatDoor.Q
attribute [local go_sem] run_store_float

set_option maxHeartbeats 8000000 in
set_option maxRecDepth 100000 in
theorem tree_calls (l : List S31) (A : Option Addr) (c : Nat) (w : World) (hr : Kd.C k31 w A l.length l) (hc : l.length ≤ c) :
    Calls Tryz.prog 7 #[.slice A l.length c] w fun e w' => Below w.heap.size w w' ∧ (e = .returned (.tuple #[.agg #[.string ⟨#[]⟩, .int .i64 0, .bool false, .int .i64 0, .int .u64 0, .float .f64 0, .string ⟨#[]⟩, .slice none 0 0], .int .i64 2]) ∨ (FineRows l ∧ ∃ A7 c7, e = .returned (.tuple #[.agg #[.string ⟨#[]⟩, .int .i64 8, .bool false, .int .i64 0, .int .u64 0, .float .f64 (0 : Nat), .string ⟨#[]⟩, .slice A7 (treeKids l).length c7], .int .i64 1]) ∧ k39.C w' A7 (treeKids l).length (treeKids l))) := by
  have HR := Aside0.mk hr
  have HLC := Aside0.mk hc
  have hu39 := Tryz.underlying39
  clear hr hc
  go_enter Tryz.func7, Tryz.ntmps7
  go_wp2_with fail
  have HZ := Aside0.mk (blk_new w (.cells zero8 39 (0, 0)))
  have HB := Aside0.mk (below_alloc (Below.refl w.heap.size w) (.cells zero8 39 (0, 0)))
  change Calls _ _ _ (w.alloc (.cells zero8 39 (0, 0))) _
  generalize w.alloc (.cells zero8 39 (0, 0)) = W0 at *
  refine (groupsX W0).mono ?_
  rintro e w1 ⟨A1, c1, rfl, hC, hB⟩
  have HC := Aside0.mk hC
  have HZ1 := Aside0.mk (blk_below HZ.out hB)
  have HB1 := Aside0.mk (below_step HB.out hB)
  clear hC hB HZ HB
  go_wp2_with fail
  refine (groupsFine_calls l A c A1 c1 w1 (Kd.C_below HR.out HB1.out) HLC.out HC.out).mono ?_
  rintro e w2 ⟨b, rfl, hb, hB⟩
  have HBb := Aside0.mk hb
  have HZ2 := Aside0.mk (blk_below HZ1.out hB)
  have HB2 := Aside0.mk (below_step HB1.out hB)
  clear hb hB HC HB1 HZ1
  cases b
  · have z0 : ∀ j, w2.cell? ⟨w.heap.size, j, none⟩ = (#[.string ⟨#[]⟩, .int .i64 0, .bool false, .int .i64 0, .int .u64 0, .float .f64 0, .string ⟨#[]⟩, .slice none 0 0] : Array Value)[j]? := fun j => (blk_cell HZ2.out j)
    have f0 : ∀ j, w2.frozen? ⟨w.heap.size, j, none⟩ = false := fun j => blk_frozen HZ2.out j
    go_wp2
    refine bodyPost_ret (results_ct rfl _ _ w.heap.size 39 _ (0, 0) _ rfl (put8 HZ2.out _ _ _ _ _ _ _ _) hu39 rfl (by kernel_rfl)) rfl ?_
    exact ⟨below_putB HB2.out (Nat.le_refl _) _ _ _ _ _ _ _ _, .inl rfl⟩
  · have HF := Aside0.mk (HBb.out rfl)
    clear HBb
    go_wp2_with fail
    refine (groupsX w2).mono ?_
    rintro e w3 ⟨A3, c3, rfl, hC, hB⟩
    have HC := Aside0.mk hC
    have HZ3 := Aside0.mk (blk_below HZ2.out hB)
    have HB3 := Aside0.mk (below_step HB2.out hB)
    clear hC hB HZ2 HB2
    go_wp2_with fail
    refine (groupsTree_calls l A c A3 c3 w3 (Kd.C_below HR.out HB3.out) HF.out HC.out).mono ?_
    rintro e w4 ⟨A7, c7, rfl, hL4, hC4, hB⟩
    have HL4 := Aside0.mk hL4
    have HC4 := Aside0.mk hC4
    have HZ4 := Aside0.mk (blk_below HZ3.out hB)
    have HB4 := Aside0.mk (below_step HB3.out hB)
    have HS4 := Aside0.mk (blk_lt HZ3.out)
    clear hL4 hC4 hB HZ3 HB3
    have z0 : ∀ j, w4.cell? ⟨w.heap.size, j, none⟩ = (#[.string ⟨#[]⟩, .int .i64 0, .bool false, .int .i64 0, .int .u64 0, .float .f64 0, .string ⟨#[]⟩, .slice none 0 0] : Array Value)[j]? := fun j => (blk_cell HZ4.out j)
    have f0 : ∀ j, w4.frozen? ⟨w.heap.size, j, none⟩ = false := fun j => blk_frozen HZ4.out j
    unfold cells8 recN
    go_wp2_with fail
    refine bodyPost_ret (results_ct rfl _ _ w.heap.size 39 _ (0, 0) _ rfl (put8 HZ4.out _ _ _ _ _ _ _ _) hu39 rfl (by kernel_rfl)) rfl ?_
    refine ⟨below_putB HB4.out (Nat.le_refl _) _ _ _ _ _ _ _ _, .inr ⟨HF.out, A7, c7, rfl, ?_⟩⟩
    exact Kd.F_now (Kd.V_at (V_put8 (Kd.V_mk (e := 39) (base := 0) HL4.out HC4.out) (fun k hk => by have := HS4.out; show k ≠ w.heap.size; omega) _ _ _ _ _ _ _ _)).2.2
end Go.Proofs.YtabfglmpnkgecaaGreatDoor.X

/- SameNode by contract: two readings of one tree. -/
namespace Go.Proofs.YtabfglmpnkgecaaGreatDoor.X
open Go.RowKit Go.Proofs.YtabfglmpnkgecaaGreatDoorW.PrintWords Go.Proofs.YtabfglmpnkgecaaGreatDoorW.PrintLast Go.Proofs.YtabfglmpnkgecaaGreatDoorW.PrintMore Go.Proofs.YtabfglmpnkgecaaGreatDoor.Q
attribute [local go_sem] run_store_float

theorem f64bits_run (n : Nat) (w : World) : (callFunc 24 #[.float .f64 n]).run Tryz.prog w = .ok (.value (.int .u64 n)) w := by
  rw [run_callFunc_extern Tryz.func24 (by kernel_rfl) (by kernel_rfl) (by kernel_rfl) (e := Extern.MathFloatBits.float64bits) (by kernel_rfl)]
  rfl

set_option maxHeartbeats 8000000 in
set_option maxRecDepth 100000 in
theorem sameNode_calls (m : Nat) : ∀ (x : S39), SizeOf.sizeOf x ≤ m → ∀ (A : Option Addr) (c : Nat) (A' : Option Addr) (c' : Nat) (w : World), k39.C w A x.f7.length x.f7 → k39.C w A' x.f7.length x.f7 →
    Calls Tryz.prog 11 #[.agg #[.string x.f0, .int .i64 x.f1, .bool x.f2, .int .i64 x.f3, .int .u64 x.f4, .float .f64 x.f5, .string x.f6, .slice A x.f7.length c], .agg #[.string x.f0, .int .i64 x.f1, .bool x.f2, .int .i64 x.f3, .int .u64 x.f4, .float .f64 x.f5, .string x.f6, .slice A' x.f7.length c']] w fun e w' => e = .returned (.bool true) ∧ Below w.heap.size w w' := by
  induction m with
  | zero => intro x hx; exfalso; cases x; simp at hx
  | succ m ih =>
    intro x hx A c A' c' w hA hA'
    have HI := Aside0.mk ih
    have HX := Aside0.mk hx
    have HA := Aside0.mk hA
    have HA' := Aside0.mk hA'
    have hm : x.f7.length ≤ 9223372036854775807 := hA.2.1
    have hu39 := Tryz.underlying39
    have hbits := f64bits_run
    clear ih hx hA hA'
    go_enter Tryz.func11, Tryz.ntmps11
    go_upto_region 1 with (fail)
    have Hg1 := Aside0.mk (blk_alloc (blk_new w (.cells #[.string x.f0, .int .i64 x.f1, .bool x.f2, .int .i64 x.f3, .int .u64 x.f4, .float .f64 x.f5, .string x.f6, .slice A x.f7.length c] 39 (0, 0))) (.cells #[.string x.f0, .int .i64 x.f1, .bool x.f2, .int .i64 x.f3, .int .u64 x.f4, .float .f64 x.f5, .string x.f6, .slice A' x.f7.length c'] 39 (0, 0)))
    have Hg2 : Aside0 (((w.alloc (.cells #[.string x.f0, .int .i64 x.f1, .bool x.f2, .int .i64 x.f3, .int .u64 x.f4, .float .f64 x.f5, .string x.f6, .slice A x.f7.length c] 39 (0, 0))).alloc (.cells #[.string x.f0, .int .i64 x.f1, .bool x.f2, .int .i64 x.f3, .int .u64 x.f4, .float .f64 x.f5, .string x.f6, .slice A' x.f7.length c'] 39 (0, 0))).heap[w.heap.size + 1]? = some (.cells #[.string x.f0, .int .i64 x.f1, .bool x.f2, .int .i64 x.f3, .int .u64 x.f4, .float .f64 x.f5, .string x.f6, .slice A' x.f7.length c'] 39 (0, 0))) := ⟨by have := blk_new (w.alloc (.cells #[.string x.f0, .int .i64 x.f1, .bool x.f2, .int .i64 x.f3, .int .u64 x.f4, .float .f64 x.f5, .string x.f6, .slice A x.f7.length c] 39 (0, 0))) (.cells #[.string x.f0, .int .i64 x.f1, .bool x.f2, .int .i64 x.f3, .int .u64 x.f4, .float .f64 x.f5, .string x.f6, .slice A' x.f7.length c'] 39 (0, 0)); rwa [World.size_alloc] at this⟩
    have HB := Aside0.mk (below_alloc (below_alloc (Below.refl _ w) (.cells #[.string x.f0, .int .i64 x.f1, .bool x.f2, .int .i64 x.f3, .int .u64 x.f4, .float .f64 x.f5, .string x.f6, .slice A x.f7.length c] 39 (0, 0))) (.cells #[.string x.f0, .int .i64 x.f1, .bool x.f2, .int .i64 x.f3, .int .u64 x.f4, .float .f64 x.f5, .string x.f6, .slice A' x.f7.length c'] 39 (0, 0)))
    generalize ((w.alloc (.cells #[.string x.f0, .int .i64 x.f1, .bool x.f2, .int .i64 x.f3, .int .u64 x.f4, .float .f64 x.f5, .string x.f6, .slice A x.f7.length c] 39 (0, 0))).alloc (.cells #[.string x.f0, .int .i64 x.f1, .bool x.f2, .int .i64 x.f3, .int .u64 x.f4, .float .f64 x.f5, .string x.f6, .slice A' x.f7.length c'] 39 (0, 0))) = W1 at *
    obtain ⟨g2, hg2⟩ : ∃ g2, Aside0 (w.heap.size + 1 = g2) := ⟨_, ⟨rfl⟩⟩
    obtain ⟨g1, hg1⟩ : ∃ g1, Aside0 (w.heap.size = g1) := ⟨_, ⟨rfl⟩⟩
    rw [hg2.out] at Hg2 ⊢
    rw [hg1.out] at Hg1 ⊢
    have g1c0 : W1.cell? ⟨g1, 0, none⟩ = some (.string x.f0) := (blk_cell Hg1.out 0).trans rfl
    have g1c1 : W1.cell? ⟨g1, 1, none⟩ = some (.int .i64 x.f1) := (blk_cell Hg1.out 1).trans rfl
    have g1c2 : W1.cell? ⟨g1, 2, none⟩ = some (.bool x.f2) := (blk_cell Hg1.out 2).trans rfl
    have g1c3 : W1.cell? ⟨g1, 3, none⟩ = some (.int .i64 x.f3) := (blk_cell Hg1.out 3).trans rfl
    have g1c4 : W1.cell? ⟨g1, 4, none⟩ = some (.int .u64 x.f4) := (blk_cell Hg1.out 4).trans rfl
    have g1c5 : W1.cell? ⟨g1, 5, none⟩ = some (.float .f64 x.f5) := (blk_cell Hg1.out 5).trans rfl
    have g1c6 : W1.cell? ⟨g1, 6, none⟩ = some (.string x.f6) := (blk_cell Hg1.out 6).trans rfl
    have g1c7 : W1.cell? ⟨g1, 7, none⟩ = some (.slice A x.f7.length c) := (blk_cell Hg1.out 7).trans rfl
    have g2c0 : W1.cell? ⟨g2, 0, none⟩ = some (.string x.f0) := (blk_cell Hg2.out 0).trans rfl
    have g2c1 : W1.cell? ⟨g2, 1, none⟩ = some (.int .i64 x.f1) := (blk_cell Hg2.out 1).trans rfl
    have g2c2 : W1.cell? ⟨g2, 2, none⟩ = some (.bool x.f2) := (blk_cell Hg2.out 2).trans rfl
    have g2c3 : W1.cell? ⟨g2, 3, none⟩ = some (.int .i64 x.f3) := (blk_cell Hg2.out 3).trans rfl
    have g2c4 : W1.cell? ⟨g2, 4, none⟩ = some (.int .u64 x.f4) := (blk_cell Hg2.out 4).trans rfl
    have g2c5 : W1.cell? ⟨g2, 5, none⟩ = some (.float .f64 x.f5) := (blk_cell Hg2.out 5).trans rfl
    have g2c6 : W1.cell? ⟨g2, 6, none⟩ = some (.string x.f6) := (blk_cell Hg2.out 6).trans rfl
    have g2c7 : W1.cell? ⟨g2, 7, none⟩ = some (.slice A' x.f7.length c') := (blk_cell Hg2.out 7).trans rfl
    have e0 : (x.f0.toList != x.f0.toList) = false := bne_self_eq_false _
    have e1 : (x.f1 != x.f1) = false := bne_self_eq_false _
    have e2 : (x.f2 != x.f2) = false := bne_self_eq_false _
    have e3 : (x.f3 != x.f3) = false := bne_self_eq_false _
    have e4 : (x.f4 != x.f4) = false := bne_self_eq_false _
    have e5 : ((x.f5 : Int) != (x.f5 : Int)) = false := bne_self_eq_false _
    have e6 : (x.f6.toList != x.f6.toList) = false := bne_self_eq_false _
    have e7 : ((x.f7.length : Int) != (x.f7.length : Int)) = false := bne_self_eq_false _
    go_quiet (fail)
    have HW : Aside0 ((W1.drewN nq).heap[g1]? = some (.cells #[.string x.f0, .int .i64 x.f1, .bool x.f2, .int .i64 x.f3, .int .u64 x.f4, .float .f64 x.f5, .string x.f6, .slice A x.f7.length c] 39 (0, 0)) ∧ (W1.drewN nq).heap[g2]? = some (.cells #[.string x.f0, .int .i64 x.f1, .bool x.f2, .int .i64 x.f3, .int .u64 x.f4, .float .f64 x.f5, .string x.f6, .slice A' x.f7.length c'] 39 (0, 0)) ∧ Below w.heap.size w (W1.drewN nq)) := ⟨blk_drewN Hg1.out nq, blk_drewN Hg2.out nq, pw_below_drewN HB.out nq⟩
    clear g1c0 g2c0 g1c1 g2c1 g1c2 g2c2 g1c3 g2c3 g1c4 g2c4 g1c5 g2c5 g1c6 g2c6 g1c7 g2c7 Hg1 Hg2 HB
    generalize W1.drewN nq = W2 at *
    have g1c7 : W2.cell? ⟨g1, 7, none⟩ = some (.slice A x.f7.length c) := (blk_cell HW.out.1 7).trans rfl
    have g2c7 : W2.cell? ⟨g2, 7, none⟩ = some (.slice A' x.f7.length c') := (blk_cell HW.out.2.1 7).trans rfl
    clear e0 e1 e2 e3 e4 e5 e6 e7
    go_wp2_with fail
    go_loopw [67] (fun v67 W' => ∃ i : Nat, i ≤ x.f7.length ∧ v67 = .int .i64 i ∧ Aside0 (W'.heap[g1]? = some (.cells #[.string x.f0, .int .i64 x.f1, .bool x.f2, .int .i64 x.f3, .int .u64 x.f4, .float .f64 x.f5, .string x.f6, .slice A x.f7.length c] 39 (0, 0)) ∧ W'.heap[g2]? = some (.cells #[.string x.f0, .int .i64 x.f1, .bool x.f2, .int .i64 x.f3, .int .u64 x.f4, .float .f64 x.f5, .string x.f6, .slice A' x.f7.length c'] 39 (0, 0)) ∧ Below w.heap.size w W')) (fun v67 _ => x.f7.length - (intOf v67).toNat)
    case atStart => exact ⟨0, Nat.zero_le _, rfl, HW⟩
    case round =>
      clear g1c7 g2c7 HW
      obtain ⟨i, hi, rfl, HW⟩ := hrel
      by_cases hlt : i < x.f7.length
      · obtain ⟨ad, A7, c7, e, h0, h1, h2, h3, h4, h5, h6, h7, hl7, hC7⟩ := at_T39 HA.out (i : Int) (Int.natCast_nonneg _) (by omega)
        cases e
        obtain ⟨ad', A7', c7', e, k0, k1, k2, k3, k4, k5, k6, k7, kl7, kC7⟩ := at_T39 HA'.out (i : Int) (Int.natCast_nonneg _) (by omega)
        cases e
        rw [Int.toNat_natCast] at h0 h1 h2 h3 h4 h5 h6 h7 k0 k1 k2 k3 k4 k5 k6 k7
        have e0 : rd_T39 x.f7 (i : Int) = x.f7.getD i z39 := by rw [rd_T39, Int.toNat_natCast]
        rw [e0] at h0 h1 h2 h3 h4 h5 h6 h7 k0 k1 k2 k3 k4 k5 k6 k7 hl7 hC7 kl7 kC7
        have hmem : x.f7.getD i z39 ∈ x.f7 := by rw [List.getD_eq_getElem?_getD, List.getElem?_eq_getElem hlt]; exact List.getElem_mem hlt
        have hsz : SizeOf.sizeOf (x.f7.getD i z39) < SizeOf.sizeOf x.f7 := List.sizeOf_lt_of_mem hmem
        have hsx : SizeOf.sizeOf x.f7 < SizeOf.sizeOf x := by cases x; simp; omega
        have HY := Aside0.mk (show SizeOf.sizeOf (x.f7.getD i z39) ≤ m by have := HX.out; omega)
        clear hmem hsz hsx e0
        generalize x.f7.getD i z39 = y at *
        replace h0 := (HW.out.2.2.cell (World.block_lt_of_cell? w _ h0)).trans h0
        replace h1 := (HW.out.2.2.cell (World.block_lt_of_cell? w _ h1)).trans h1
        replace h2 := (HW.out.2.2.cell (World.block_lt_of_cell? w _ h2)).trans h2
        replace h3 := (HW.out.2.2.cell (World.block_lt_of_cell? w _ h3)).trans h3
        replace h4 := (HW.out.2.2.cell (World.block_lt_of_cell? w _ h4)).trans h4
        replace h5 := (HW.out.2.2.cell (World.block_lt_of_cell? w _ h5)).trans h5
        replace h6 := (HW.out.2.2.cell (World.block_lt_of_cell? w _ h6)).trans h6
        replace h7 := (HW.out.2.2.cell (World.block_lt_of_cell? w _ h7)).trans h7
        replace k0 := (HW.out.2.2.cell (World.block_lt_of_cell? w _ k0)).trans k0
        replace k1 := (HW.out.2.2.cell (World.block_lt_of_cell? w _ k1)).trans k1
        replace k2 := (HW.out.2.2.cell (World.block_lt_of_cell? w _ k2)).trans k2
        replace k3 := (HW.out.2.2.cell (World.block_lt_of_cell? w _ k3)).trans k3
        replace k4 := (HW.out.2.2.cell (World.block_lt_of_cell? w _ k4)).trans k4
        replace k5 := (HW.out.2.2.cell (World.block_lt_of_cell? w _ k5)).trans k5
        replace k6 := (HW.out.2.2.cell (World.block_lt_of_cell? w _ k6)).trans k6
        replace k7 := (HW.out.2.2.cell (World.block_lt_of_cell? w _ k7)).trans k7
        have HC7 := Aside0.mk (Kd.C_below hC7 HW.out.2.2)
        have KC7 := Aside0.mk (Kd.C_below kC7 HW.out.2.2)
        clear hC7 kC7 hl7 kl7
        have g1c7 : wr.cell? ⟨g1, 7, none⟩ = some (.slice (some ad) x.f7.length c) := (blk_cell HW.out.1 7).trans rfl
        have g2c7 : wr.cell? ⟨g2, 7, none⟩ = some (.slice (some ad') x.f7.length c') := (blk_cell HW.out.2.1 7).trans rfl
        go_upto_region 6 with (fail)
        go_still_tail 10, (by kernel_rfl)
        change wpList _ _ _ _ _ wr.drew
        have HW2 : Aside0 (wr.drew.heap[g1]? = some (.cells #[.string x.f0, .int .i64 x.f1, .bool x.f2, .int .i64 x.f3, .int .u64 x.f4, .float .f64 x.f5, .string x.f6, .slice (some ad) x.f7.length c] 39 (0, 0)) ∧ wr.drew.heap[g2]? = some (.cells #[.string x.f0, .int .i64 x.f1, .bool x.f2, .int .i64 x.f3, .int .u64 x.f4, .float .f64 x.f5, .string x.f6, .slice (some ad') x.f7.length c'] 39 (0, 0)) ∧ Below w.heap.size w wr.drew) := ⟨blk_drew HW.out.1, blk_drew HW.out.2.1, below_drew HW.out.2.2⟩
        have HC8 := Aside0.mk (Kd.C_drew HC7.out)
        have KC8 := Aside0.mk (Kd.C_drew KC7.out)
        clear h0 k0 h1 k1 h2 k2 h3 k3 h4 k4 h5 k5 h6 k6 h7 k7 HC7 KC7 g1c7 g2c7 HW
        generalize wr.drew = w3 at *
        go_wp2_with fail
        refine (HI.out y HY.out A7 c7 A7' c7' w3 HC8.out KC8.out).mono ?_
        rintro e w4 ⟨rfl, hB⟩
        have HW3 : Aside0 (w4.heap[g1]? = some (.cells #[.string x.f0, .int .i64 x.f1, .bool x.f2, .int .i64 x.f3, .int .u64 x.f4, .float .f64 x.f5, .string x.f6, .slice (some ad) x.f7.length c] 39 (0, 0)) ∧ w4.heap[g2]? = some (.cells #[.string x.f0, .int .i64 x.f1, .bool x.f2, .int .i64 x.f3, .int .u64 x.f4, .float .f64 x.f5, .string x.f6, .slice (some ad') x.f7.length c'] 39 (0, 0)) ∧ Below w.heap.size w w4) := ⟨blk_below HW2.out.1 hB, blk_below HW2.out.2.1 hB, below_step HW2.out.2.2 hB⟩
        clear hB
        go_wp2_with fail
        go_roundw
        case measure => simp [intOf]; omega
        case rel => exact ⟨i + 1, by omega, by go_num, HW3⟩
      · go_wp2_with fail
        go_ret
        exact ⟨rfl, HW.out.2.2⟩
end Go.Proofs.YtabfglmpnkgecaaGreatDoor.X
