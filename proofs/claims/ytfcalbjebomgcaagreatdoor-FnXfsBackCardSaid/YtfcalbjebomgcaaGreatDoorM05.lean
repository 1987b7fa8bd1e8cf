-- Written by a program of this claim's session (after the kit's print, with a kind for float64). Lean checks it.
import Derived.Test.YtfcalbjebomgcaaGreatDoorM01
import Derived.Test.YtfcalbjebomgcaaGreatDoorM03
set_option linter.unusedVariables false
set_option linter.unusedSimpArgs false
namespace Go.Proofs.YtfcalbjebomgcaaGreatDoor.Q
open Go.RowKit Go.Proofs.YtfcalbjebomgcaaGreatDoorW.PrintWords Go.Proofs.YtfcalbjebomgcaaGreatDoorW.PrintLast Go.Proofs.YtfcalbjebomgcaaGreatDoorW.PrintMore
attribute [local go_sem] max2_int min2_int max_two min_two max_three min_three max_four min_four run_store_float   -- for this text's walks alone
set_option linter.unusedVariables false
set_option linter.unusedSimpArgs false

/-! ### spec_fill: function 18 -/
def spec_fill.l0 : Nat → ByteArray → List Int → List (S39) → List ByteArray → Int → Int → Option (ByteArray × Int × Bool × Int × Int × Nat × ByteArray × (List (S39)))
  | 0, _, _, _, _, _, _ => none
  | k + 1, x0, x2, x7, x11, x12, x13 => if x13 < x12 then (if 0 ≤ x13 then (if x13 < (x11.length : Int) then (if x13 < (x2.length : Int) then ((spec_uintNode.f (rdOf ByteArray.empty x11 x13) (rd x2 x13)).bind fun bt262 => (if x7.length < 1466015503701 then (spec_fill.l0 k x0 x2 (x7 ++ [(⟨bt262.1, bt262.2.1, bt262.2.2.1, bt262.2.2.2.1, bt262.2.2.2.2.1, bt262.2.2.2.2.2.1, bt262.2.2.2.2.2.2.1, bt262.2.2.2.2.2.2.2⟩ : S39)]) x11 x12 (wrap64 (x13 + 1))) else (none))) else ((spec_uintNode.f (rdOf ByteArray.empty x11 x13) 0).bind fun bt275 => (if x7.length < 1466015503701 then (spec_fill.l0 k x0 x2 (x7 ++ [(⟨bt275.1, bt275.2.1, bt275.2.2.1, bt275.2.2.2.1, bt275.2.2.2.2.1, bt275.2.2.2.2.2.1, bt275.2.2.2.2.2.2.1, bt275.2.2.2.2.2.2.2⟩ : S39)]) x11 x12 (wrap64 (x13 + 1))) else (none)))) else (none)) else (none)) else ((spec_recordNode.f x0 x7).bind fun bt288 => (some (bt288.1, bt288.2.1, bt288.2.2.1, bt288.2.2.2.1, bt288.2.2.2.2.1, bt288.2.2.2.2.2.1, bt288.2.2.2.2.2.2.1, bt288.2.2.2.2.2.2.2)))
def spec_fill.f (k : Nat) (a0 : ByteArray) (l1 : List ByteArray) (l2 : List Int) : Option (ByteArray × Int × Bool × Int × Int × Nat × ByteArray × (List (S39))) := spec_fill.l0 k a0 l2 ([] : List (S39)) l1 (l1.length : Int) 0
theorem spec_fill.mono_l : ∀ k, (∀ y0 y1 y2 y3 y4 y5, LeO (spec_fill.l0 k y0 y1 y2 y3 y4 y5) (spec_fill.l0 (k + 1) y0 y1 y2 y3 y4 y5))
  | 0 => fun _ _ _ _ _ _ r h => by simp [spec_fill.l0] at h
  | k + 1 => by
    have ih0 := spec_fill.mono_l k
    · intro y0 y1 y2 y3 y4 y5
      unfold spec_fill.l0
      repeat' first
      | (with_reducible exact ih0 _ _ _ _ _ _)
      | (with_reducible exact LeO.refl _)
      | (with_reducible exact LeO.none _)
      | (with_reducible refine LeO.ite ?_ ?_)
      | (with_reducible refine LeO.bind ?_ (fun _ => ?_))
      | exact ih0 _ _ _ _ _ _
      | exact LeO.none _
      | refine LeO.ite ?_ ?_
      | refine LeO.bind ?_ (fun _ => ?_)
theorem spec_fill.mono : ∀ a0 a1 a2 k, LeO (spec_fill.f k a0 a1 a2) (spec_fill.f (k + 1) a0 a1 a2) := by
  intro a0 a1 a2 k
  have ih0 := spec_fill.mono_l k
  unfold spec_fill.f
  repeat' first
      | (with_reducible exact ih0 _ _ _ _ _ _)
      | (with_reducible exact LeO.refl _)
      | (with_reducible exact LeO.none _)
      | (with_reducible refine LeO.ite ?_ ?_)
      | (with_reducible refine LeO.bind ?_ (fun _ => ?_))
      | exact ih0 _ _ _ _ _ _
      | exact LeO.none _
      | refine LeO.ite ?_ ?_
      | refine LeO.bind ?_ (fun _ => ?_)
set_option maxHeartbeats 8000000 in
set_option maxRecDepth 100000 in
theorem spec_fill.calls (k : Nat) (a0 : ByteArray) (A1 : Option Addr) (c1 : Nat) (l1 : List ByteArray) (A2 : Option Addr) (c2 : Nat) (l2 : List Int) (r1 : ByteArray) (r2 : Int) (r3 : Bool) (r4 : Int) (r5 : Int) (r6 : Nat) (r7 : ByteArray) (r8 : List (S39)) (w : World) (hr1 : Kd.C Kd.string w A1 l1.length l1) (hc1 : l1.length ≤ c1) (hr2 : Kd.C (Kd.int .u64) w A2 l2.length l2) (hc2 : l2.length ≤ c2) (h : spec_fill.f k a0 l1 l2 = some (r1, r2, r3, r4, r5, r6, r7, r8)) :
    Calls Tryz.prog 18 #[.string a0, .slice A1 l1.length c1, .slice A2 l2.length c2] w fun e w' => ∃ v7_ : Value, e = .returned (.agg #[.string r1, .int .i64 r2, .bool r3, .int .i64 r4, .int .u64 r5, .float .f64 r6, .string r7, v7_]) ∧ Kd.V k39 39 w' w.heap.size (fun k_ => (w.heap.size ≤ k_)) v7_ r8 ∧ Below w.heap.size w w' := by
  have hu39 := Tryz.underlying39
  have HR1 := Aside0.mk hr1
  have HC1 := Aside0.mk hc1
  clear hr1 hc1
  have HR2 := Aside0.mk hr2
  have HC2 := Aside0.mk hc2
  clear hr2 hc2
  have HB := Aside0.mk (Below.refl w.heap.size w)
  have H : (spec_fill.l0 k a0 l2 ([] : List (S39)) l1 (l1.length : Int) 0) = some (r1, r2, r3, r4, r5, r6, r7, r8) := h
  clear h
  have H' := Aside0.mk H
  clear H
  go_enter Tryz.func18, Tryz.ntmps18
  go_wp2_with (first | ((with_reducible refine gate_dst (N := 6) rfl ?_); refine box_event ?hg (N := 6) ?hd (cs := #[.string (⟨#[]⟩ : ByteArray), .int .i64 0, .bool false, .int .i64 0, .int .u64 0, .float .f64 (0 : Nat), .string (⟨#[]⟩ : ByteArray), .slice none 0 0]) (t := 39) ?hr ?_; (case hd => rfl); (case hg => rfl); (case hr => first | (go_simp; done) | (go_simp; rfl)); intro gb259 hg w4 hbox hb; have n0_ := Aside0.mk (below_step (by repeat (first | (with_reducible first | exact HB.out | apply below_alloc | apply pw_below_drewN | apply below_drew1) | exact HB.out)) hb); have n1_ := Aside0.mk (hbox); have n2_ := Aside0.mk ((by rw [hg]; exact (below_size (by repeat (first | (with_reducible first | exact HB.out | apply below_alloc | apply pw_below_drewN | apply below_drew1) | exact HB.out))) : w.heap.size ≤ gb259)); have n3_ := Aside0.mk ((by rw [hg]; exact (below_size (by repeat (first | (with_reducible first | exact HB.out | apply below_alloc | apply pw_below_drewN | apply below_drew1) | exact HB.out))) : w.heap.size ≤ gb259)); clear HB; have HB := n0_; have BK259 := n1_; have GW259 := n2_; have GE259 := n3_; clear n0_ n1_ n2_ n3_; clear hb hbox hg))
  go_loopg [7, 13] k (fun kq v7 v13 w' => ∃ (x7_1 : List (S39)) (x13_1 : Int), v13 = .int .i64 x13_1 ∧ Aside0 (spec_fill.l0 kq a0 l2 x7_1 l1 (l1.length : Int) x13_1 = some (r1, r2, r3, r4, r5, r6, r7, r8)) ∧ Aside0 (kq ≤ k) ∧ Aside0 (Kd.R k39 39 w' w.heap.size (fun k_ => (w.heap.size ≤ k_) ∧ k_ ≠ gb259) v7 x7_1) ∧ Aside0 (w'.heap[gb259]? = some (.cells #[.string (⟨#[]⟩ : ByteArray), .int .i64 0, .bool false, .int .i64 0, .int .u64 0, .float .f64 (0 : Nat), .string (⟨#[]⟩ : ByteArray), (.slice none 0 0)] 39 (0, 0))) ∧ Aside0 (Below w.heap.size w w'))
  case atStart => exact ⟨(([] : List (S39))), (0), (by first | rfl | (simp; done) | (simp [*]; done)), H', ⟨Nat.le_refl _⟩, ⟨by first | exact Kd.R_nil _ _ _ _ _ | exact Kd.N_nil _ _ _ _ _ | exact Kd.V_nil _ _ _ _ _ | exact Kd.Q_nil _ _ _ _ _ | exact Kd.S_nil _ _ _ _ _⟩, ⟨by (with_reducible repeat (first | refine blk_drewN ?_ _ | refine blk_drew ?_ | refine blk_alloc ?_ _)); exact BK259.out⟩, ⟨by repeat (first | (with_reducible first | exact HB.out | apply below_alloc | apply pw_below_drewN | apply below_drew1 | refine below_set ?_ GE259.out) | exact HB.out)⟩⟩
  case round =>
    clear H'
    try clear c1
    try clear c2
    try clear p2
    obtain ⟨x7_1, x13_1, rfl, HA, HK1, HO_7, BK259, HB⟩ := hrel
    cases gk with
    | zero => exact absurd HA.out (by simp [spec_fill.l0])
    | succ k1 =>
      have H := HA.out
      clear HA
      simp only [spec_fill.l0] at H
      by_cases c5 : x13_1 < (l1.length : Int)
      · rw [if_pos c5] at H
        have c5b0 : decide (x13_1 < (l1.length : Int)) = true := decide_eq_true c5
        clear c5
        by_cases c6 : 0 ≤ x13_1
        · rw [if_pos c6] at H
          have c6b0 : decide (0 ≤ x13_1) = true := decide_eq_true c6
          clear c6
          by_cases c7 : x13_1 < (l1.length : Int)
          · rw [if_pos c7] at H
            have c7b0 : decide (x13_1 < (l1.length : Int)) = true := decide_eq_true c7
            clear c7
            by_cases c8 : x13_1 < (l2.length : Int)
            · rw [if_pos c8] at H
              have c8b0 : decide (x13_1 < (l2.length : Int)) = true := decide_eq_true c8
              clear c8
              replace H := Option.bind_eq_some_iff.mp H
              obtain ⟨⟨t262, t263, t264, t265, t266, t267, t268, t269⟩, A90, H⟩ := H
              replace H : (if x7_1.length < 1466015503701 then (spec_fill.l0 k1 a0 l2 (x7_1 ++ [(⟨t262, t263, t264, t265, t266, t267, t268, t269⟩ : S39)]) l1 (l1.length : Int) (wrap64 (x13_1 + 1))) else (none)) = some (r1, r2, r3, r4, r5, r6, r7, r8) := H
              have A9 := Aside0.mk A90
              clear A90
              by_cases c10 : x7_1.length < 1466015503701
              · rw [if_pos c10] at H
                have LMc10 := Aside0.mk c10
                clear c10
                obtain ⟨y272, hy272⟩ : ∃ y_ : List (S39), y_ = (x7_1 ++ [(⟨t262, t263, t264, t265, t266, t267, t268, t269⟩ : S39)]) := ⟨_, rfl⟩
                replace H : (spec_fill.l0 k1 a0 l2 y272 l1 (l1.length : Int) (wrap64 (x13_1 + 1))) = some (r1, r2, r3, r4, r5, r6, r7, r8) := by first | (rw [hy272]; with_reducible exact H) | (have H2_ := (Option.bind_some _ _).symm.trans H; rw [hy272]; with_reducible exact H2_) | (have H2_ := (Option.bind_some _ _).symm.trans H; with_reducible exact H2_) | with_reducible exact H | (rw [hy272]; exact H) | exact H
                have Ny272 := Aside0.mk hy272
                clear hy272
                have H' := Aside0.mk H
                clear H
                have p260 : 0 ≤ (x13_1 : Int) := of_decide_eq_true (by first | (with_reducible assumption) | assumption)
                have q260 : x13_1 < (l1.length : Int) := of_decide_eq_true (by first | (with_reducible assumption) | assumption)
                obtain ⟨ad260, e260, hx260_0⟩ := Kd.at_string HR1.out x13_1 p260 q260
                cases e260
                replace hx260_0 := (HB.out.cell (World.block_lt_of_cell? w _ hx260_0)).trans hx260_0
                replace p260 := eq_true p260
                replace q260 := eq_true q260
                have p261 : 0 ≤ (x13_1 : Int) := of_decide_eq_true (by first | (with_reducible assumption) | assumption)
                have q261 : x13_1 < (l2.length : Int) := of_decide_eq_true (by first | (with_reducible assumption) | assumption)
                obtain ⟨ad261, e261, hx261_0⟩ := Kd.at_int HR2.out x13_1 p261 q261
                cases e261
                replace hx261_0 := (HB.out.cell (World.block_lt_of_cell? w _ hx261_0)).trans hx261_0
                replace p261 := eq_true p261
                replace q261 := eq_true q261
                go_wp2_with (first | ((with_reducible refine gate_callee (f := 36) rfl ?_); refine goesL_ (some 29) rfl rfl Tryz.func36 (by kernel_rfl) rfl #[.string (rdOf ByteArray.empty l1 x13_1), .int .u64 (rd l2 x13_1)] rfl (by (try simp only [List.map_toArray, List.map_cons, List.map_nil]); first | done | rfl | (simp only [List.length_drop, List.length_take]; rfl)) ?_; (with_reducible refine (spec_uintNode.calls (rdOf ByteArray.empty l1 x13_1) (rd l2 x13_1) t262 t263 t264 t265 t266 t267 t268 t269 _ A9.out).mono ?_); rintro e w11 ⟨v270, rfl, ho0, hb⟩; refine ⟨_, rfl, ?_⟩; have n0_ := Aside0.mk (Kd.R_elder' (by (with_reducible repeat (first | apply Kd.R_alloc | apply Kd.R_drewN | apply Kd.R_drew)); exact HO_7.out) (Kd.R_base ho0) hb); have n1_ := Aside0.mk (Kd.R_lower (Kd.R_newB (Kd.R_new' (Kd.R_newM (M := fun k_ => (w.heap.size ≤ k_)) ho0 (below_size (by repeat (first | (with_reducible first | exact HB.out | apply below_alloc | apply pw_below_drewN | apply below_drew1 | refine below_set ?_ GE259.out) | exact HB.out))) (fun k_ h_ => h_)) (Kd.R_lt (by (with_reducible repeat (first | apply Kd.R_alloc | apply Kd.R_drewN | apply Kd.R_drew)); exact HO_7.out))) (g := gb259) (o := .cells #[.string (⟨#[]⟩ : ByteArray), .int .i64 0, .bool false, .int .i64 0, .int .u64 0, .float .f64 (0 : Nat), .string (⟨#[]⟩ : ByteArray), .slice none 0 0] 39 (0, 0)) (by (with_reducible repeat (first | refine blk_drewN ?_ _ | refine blk_drew ?_ | refine blk_alloc ?_ _)); exact BK259.out)) (below_size (by repeat (first | (with_reducible first | exact HB.out | apply below_alloc | apply pw_below_drewN | apply below_drew1 | refine below_set ?_ GE259.out) | exact HB.out)))); have n2_ := Aside0.mk (blk_below (g := gb259) (o := .cells #[.string (⟨#[]⟩ : ByteArray), .int .i64 0, .bool false, .int .i64 0, .int .u64 0, .float .f64 (0 : Nat), .string (⟨#[]⟩ : ByteArray), .slice none 0 0] 39 (0, 0)) (by (with_reducible repeat (first | refine blk_drewN ?_ _ | refine blk_drew ?_ | refine blk_alloc ?_ _)); exact BK259.out) hb); have n3_ := Aside0.mk (below_step (by repeat (first | (with_reducible first | exact HB.out | apply below_alloc | apply pw_below_drewN | apply below_drew1 | refine below_set ?_ GE259.out) | exact HB.out)) hb); clear HO_7; clear BK259; clear HB; have HO_7 := n0_; have HO271 := n1_; have BK259 := n2_; have HB := n3_; clear n0_ n1_ n2_ n3_; (try clear hb); (try clear hb2); (try clear hk); (try clear hi); (try clear ho0); obtain ⟨Ao13, co13, eo13⟩ := Kd.R_slice HO271.out; subst eo13) | ((with_reducible refine gate_builtin (b := .append) (xs := #[.tmp 26, .tmp 30]) rfl ?_); at_builtin; refine Kd.R_append k39 (w0 := w) w.heap.size rfl (.tmp 26) (.tmp 30) 37 39 (.agg #[(.string ⟨#[]⟩), (.int .i64 0), (.bool false), (.int .i64 0), (.int .u64 0), (.float .f64 0), (.string ⟨#[]⟩), (.slice none 0 0)]) 96 rfl Tryz.underlying37 info39 rfl (by decide) (by omega) u7 x7_1 (⟨t262, t263, t264, t265, t266, t267, t268, t269⟩ : S39) [.string t262, .int .i64 t263, .bool t264, .int .i64 t265, .int .u64 t266, .float .f64 t267, .string t268, .slice Ao13 t269.length co13] (fun k_ => (w.heap.size ≤ k_) ∧ k_ ≠ gb259) (fun k_ => ((fun k_ => (w.heap.size ≤ k_) ∧ k_ ≠ gb259)) k_ ∧ some k_ ≠ (u7 : Value).ownBlock) rfl rfl ?aP (fun _ hk => hk) ?aF ?aO ?aB ?aS ?aL ?_; (case aP => exact k39_mkM _ _ _ (⟨t262, t263, t264, t265, t266, t267, t268, t269⟩ : S39) (Kd.R_mono (HO271.out) (fun k_ hk => ⟨⟨hk.1.1.1, hk.2⟩, hk.1.2⟩))); (case aB => exact (by repeat (first | (with_reducible first | exact HB.out | apply below_alloc | apply pw_below_drewN | apply below_drew1 | refine below_set ?_ GE259.out) | exact HB.out))); (case aF => exact (fun k_ hk => ⟨(Nat.le_trans (below_size (by repeat (first | (with_reducible first | exact HB.out | apply below_alloc | apply pw_below_drewN | apply below_drew1 | refine below_set ?_ GE259.out) | exact HB.out))) hk), Kd.freshB (g := gb259) (o := .cells #[.string (⟨#[]⟩ : ByteArray), .int .i64 0, .bool false, .int .i64 0, .int .u64 0, .float .f64 (0 : Nat), .string (⟨#[]⟩ : ByteArray), .slice none 0 0] 39 (0, 0)) (by (with_reducible repeat (first | refine blk_drewN ?_ _ | refine blk_drew ?_ | refine blk_alloc ?_ _)); exact BK259.out) k_ hk⟩)); (case aO => exact (by (with_reducible repeat (first | apply Kd.R_alloc | apply Kd.R_drewN | apply Kd.R_drew)); exact Kd.R_mono HO_7.out (fun _ hk => ⟨hk.1.1, hk.1.2⟩))); (case aS => exact (below_size (by repeat (first | (with_reducible first | exact HB.out | apply below_alloc | apply pw_below_drewN | apply below_drew1 | refine below_set ?_ GE259.out) | exact HB.out)))); (case aL => have := LMc10.out; omega); intro v273 w12 ho hb hg hat; rw [← Ny272.out] at ho; have n0_ := Aside0.mk (blk_grown (g := gb259) (o := .cells #[.string (⟨#[]⟩ : ByteArray), .int .i64 0, .bool false, .int .i64 0, .int .u64 0, .float .f64 (0 : Nat), .string (⟨#[]⟩ : ByteArray), .slice none 0 0] 39 (0, 0)) (by (with_reducible repeat (first | refine blk_drewN ?_ _ | refine blk_drew ?_ | refine blk_alloc ?_ _)); exact BK259.out) hg (Kd.R_away HO_7.out (fun _ hk => hk.1.2))); have n1_ := Aside0.mk (hb); have n2_ := Aside0.mk (ho); clear BK259; clear HB; clear HO_7; clear HO271; have BK259 := n0_; have HB := n1_; have HO274 := n2_; clear n0_ n1_ n2_; clear ho hb hg hat))
                go_roundg k1
                case measure => have := HK1.out; omega
                case rel => exact ⟨(y272), (wrap64 (x13_1 + 1)), (by first | rfl | (simp; done) | (simp [*]; done)), H', ⟨by have := HK1.out; omega⟩, ⟨by (with_reducible repeat (first | apply Kd.R_alloc | apply Kd.R_drewN | apply Kd.R_drew)); exact HO274.out⟩, ⟨by (with_reducible repeat (first | refine blk_drewN ?_ _ | refine blk_drew ?_ | refine blk_alloc ?_ _)); exact BK259.out⟩, ⟨by repeat (first | (with_reducible first | exact HB.out | apply below_alloc | apply pw_below_drewN | apply below_drew1 | refine below_set ?_ GE259.out) | exact HB.out)⟩⟩
              · rw [if_neg c10] at H
                exact absurd H (by simp)
            · rw [if_neg c8] at H
              have c8b0 : decide (x13_1 < (l2.length : Int)) = false := decide_eq_false c8
              clear c8
              replace H := Option.bind_eq_some_iff.mp H
              obtain ⟨⟨t275, t276, t277, t278, t279, t280, t281, t282⟩, A140, H⟩ := H
              replace H : (if x7_1.length < 1466015503701 then (spec_fill.l0 k1 a0 l2 (x7_1 ++ [(⟨t275, t276, t277, t278, t279, t280, t281, t282⟩ : S39)]) l1 (l1.length : Int) (wrap64 (x13_1 + 1))) else (none)) = some (r1, r2, r3, r4, r5, r6, r7, r8) := H
              have A14 := Aside0.mk A140
              clear A140
              by_cases c15 : x7_1.length < 1466015503701
              · rw [if_pos c15] at H
                have LMc15 := Aside0.mk c15
                clear c15
                obtain ⟨y285, hy285⟩ : ∃ y_ : List (S39), y_ = (x7_1 ++ [(⟨t275, t276, t277, t278, t279, t280, t281, t282⟩ : S39)]) := ⟨_, rfl⟩
                replace H : (spec_fill.l0 k1 a0 l2 y285 l1 (l1.length : Int) (wrap64 (x13_1 + 1))) = some (r1, r2, r3, r4, r5, r6, r7, r8) := by first | (rw [hy285]; with_reducible exact H) | (have H2_ := (Option.bind_some _ _).symm.trans H; rw [hy285]; with_reducible exact H2_) | (have H2_ := (Option.bind_some _ _).symm.trans H; with_reducible exact H2_) | with_reducible exact H | (rw [hy285]; exact H) | exact H
                have Ny285 := Aside0.mk hy285
                clear hy285
                have H' := Aside0.mk H
                clear H
                have p260 : 0 ≤ (x13_1 : Int) := of_decide_eq_true (by first | (with_reducible assumption) | assumption)
                have q260 : x13_1 < (l1.length : Int) := of_decide_eq_true (by first | (with_reducible assumption) | assumption)
                obtain ⟨ad260, e260, hx260_0⟩ := Kd.at_string HR1.out x13_1 p260 q260
                cases e260
                replace hx260_0 := (HB.out.cell (World.block_lt_of_cell? w _ hx260_0)).trans hx260_0
                replace p260 := eq_true p260
                replace q260 := eq_true q260
                go_wp2_with (first | ((with_reducible refine gate_callee (f := 36) rfl ?_); refine goesL_ (some 29) rfl rfl Tryz.func36 (by kernel_rfl) rfl #[.string (rdOf ByteArray.empty l1 x13_1), .int .u64 0] rfl (by (try simp only [List.map_toArray, List.map_cons, List.map_nil]); first | done | rfl | (simp only [List.length_drop, List.length_take]; rfl)) ?_; (with_reducible refine (spec_uintNode.calls (rdOf ByteArray.empty l1 x13_1) 0 t275 t276 t277 t278 t279 t280 t281 t282 _ A14.out).mono ?_); rintro e w16 ⟨v283, rfl, ho0, hb⟩; refine ⟨_, rfl, ?_⟩; have n0_ := Aside0.mk (Kd.R_elder' (by (with_reducible repeat (first | apply Kd.R_alloc | apply Kd.R_drewN | apply Kd.R_drew)); exact HO_7.out) (Kd.R_base ho0) hb); have n1_ := Aside0.mk (Kd.R_lower (Kd.R_newB (Kd.R_new' (Kd.R_newM (M := fun k_ => (w.heap.size ≤ k_)) ho0 (below_size (by repeat (first | (with_reducible first | exact HB.out | apply below_alloc | apply pw_below_drewN | apply below_drew1 | refine below_set ?_ GE259.out) | exact HB.out))) (fun k_ h_ => h_)) (Kd.R_lt (by (with_reducible repeat (first | apply Kd.R_alloc | apply Kd.R_drewN | apply Kd.R_drew)); exact HO_7.out))) (g := gb259) (o := .cells #[.string (⟨#[]⟩ : ByteArray), .int .i64 0, .bool false, .int .i64 0, .int .u64 0, .float .f64 (0 : Nat), .string (⟨#[]⟩ : ByteArray), .slice none 0 0] 39 (0, 0)) (by (with_reducible repeat (first | refine blk_drewN ?_ _ | refine blk_drew ?_ | refine blk_alloc ?_ _)); exact BK259.out)) (below_size (by repeat (first | (with_reducible first | exact HB.out | apply below_alloc | apply pw_below_drewN | apply below_drew1 | refine below_set ?_ GE259.out) | exact HB.out)))); have n2_ := Aside0.mk (blk_below (g := gb259) (o := .cells #[.string (⟨#[]⟩ : ByteArray), .int .i64 0, .bool false, .int .i64 0, .int .u64 0, .float .f64 (0 : Nat), .string (⟨#[]⟩ : ByteArray), .slice none 0 0] 39 (0, 0)) (by (with_reducible repeat (first | refine blk_drewN ?_ _ | refine blk_drew ?_ | refine blk_alloc ?_ _)); exact BK259.out) hb); have n3_ := Aside0.mk (below_step (by repeat (first | (with_reducible first | exact HB.out | apply below_alloc | apply pw_below_drewN | apply below_drew1 | refine below_set ?_ GE259.out) | exact HB.out)) hb); clear HO_7; clear BK259; clear HB; have HO_7 := n0_; have HO284 := n1_; have BK259 := n2_; have HB := n3_; clear n0_ n1_ n2_ n3_; (try clear hb); (try clear hb2); (try clear hk); (try clear hi); (try clear ho0); obtain ⟨Ao18, co18, eo18⟩ := Kd.R_slice HO284.out; subst eo18) | ((with_reducible refine gate_builtin (b := .append) (xs := #[.tmp 26, .tmp 30]) rfl ?_); at_builtin; refine Kd.R_append k39 (w0 := w) w.heap.size rfl (.tmp 26) (.tmp 30) 37 39 (.agg #[(.string ⟨#[]⟩), (.int .i64 0), (.bool false), (.int .i64 0), (.int .u64 0), (.float .f64 0), (.string ⟨#[]⟩), (.slice none 0 0)]) 96 rfl Tryz.underlying37 info39 rfl (by decide) (by omega) u7 x7_1 (⟨t275, t276, t277, t278, t279, t280, t281, t282⟩ : S39) [.string t275, .int .i64 t276, .bool t277, .int .i64 t278, .int .u64 t279, .float .f64 t280, .string t281, .slice Ao18 t282.length co18] (fun k_ => (w.heap.size ≤ k_) ∧ k_ ≠ gb259) (fun k_ => ((fun k_ => (w.heap.size ≤ k_) ∧ k_ ≠ gb259)) k_ ∧ some k_ ≠ (u7 : Value).ownBlock) rfl rfl ?aP (fun _ hk => hk) ?aF ?aO ?aB ?aS ?aL ?_; (case aP => exact k39_mkM _ _ _ (⟨t275, t276, t277, t278, t279, t280, t281, t282⟩ : S39) (Kd.R_mono (HO284.out) (fun k_ hk => ⟨⟨hk.1.1.1, hk.2⟩, hk.1.2⟩))); (case aB => exact (by repeat (first | (with_reducible first | exact HB.out | apply below_alloc | apply pw_below_drewN | apply below_drew1 | refine below_set ?_ GE259.out) | exact HB.out))); (case aF => exact (fun k_ hk => ⟨(Nat.le_trans (below_size (by repeat (first | (with_reducible first | exact HB.out | apply below_alloc | apply pw_below_drewN | apply below_drew1 | refine below_set ?_ GE259.out) | exact HB.out))) hk), Kd.freshB (g := gb259) (o := .cells #[.string (⟨#[]⟩ : ByteArray), .int .i64 0, .bool false, .int .i64 0, .int .u64 0, .float .f64 (0 : Nat), .string (⟨#[]⟩ : ByteArray), .slice none 0 0] 39 (0, 0)) (by (with_reducible repeat (first | refine blk_drewN ?_ _ | refine blk_drew ?_ | refine blk_alloc ?_ _)); exact BK259.out) k_ hk⟩)); (case aO => exact (by (with_reducible repeat (first | apply Kd.R_alloc | apply Kd.R_drewN | apply Kd.R_drew)); exact Kd.R_mono HO_7.out (fun _ hk => ⟨hk.1.1, hk.1.2⟩))); (case aS => exact (below_size (by repeat (first | (with_reducible first | exact HB.out | apply below_alloc | apply pw_below_drewN | apply below_drew1 | refine below_set ?_ GE259.out) | exact HB.out)))); (case aL => have := LMc15.out; omega); intro v286 w17 ho hb hg hat; rw [← Ny285.out] at ho; have n0_ := Aside0.mk (blk_grown (g := gb259) (o := .cells #[.string (⟨#[]⟩ : ByteArray), .int .i64 0, .bool false, .int .i64 0, .int .u64 0, .float .f64 (0 : Nat), .string (⟨#[]⟩ : ByteArray), .slice none 0 0] 39 (0, 0)) (by (with_reducible repeat (first | refine blk_drewN ?_ _ | refine blk_drew ?_ | refine blk_alloc ?_ _)); exact BK259.out) hg (Kd.R_away HO_7.out (fun _ hk => hk.1.2))); have n1_ := Aside0.mk (hb); have n2_ := Aside0.mk (ho); clear BK259; clear HB; clear HO_7; clear HO284; have BK259 := n0_; have HB := n1_; have HO287 := n2_; clear n0_ n1_ n2_; clear ho hb hg hat))
                go_roundg k1
                case measure => have := HK1.out; omega
                case rel => exact ⟨(y285), (wrap64 (x13_1 + 1)), (by first | rfl | (simp; done) | (simp [*]; done)), H', ⟨by have := HK1.out; omega⟩, ⟨by (with_reducible repeat (first | apply Kd.R_alloc | apply Kd.R_drewN | apply Kd.R_drew)); exact HO287.out⟩, ⟨by (with_reducible repeat (first | refine blk_drewN ?_ _ | refine blk_drew ?_ | refine blk_alloc ?_ _)); exact BK259.out⟩, ⟨by repeat (first | (with_reducible first | exact HB.out | apply below_alloc | apply pw_below_drewN | apply below_drew1 | refine below_set ?_ GE259.out) | exact HB.out)⟩⟩
              · rw [if_neg c15] at H
                exact absurd H (by simp)
          · rw [if_neg c7] at H
            exact absurd H (by simp)
        · rw [if_neg c6] at H
          exact absurd H (by simp)
      · rw [if_neg c5] at H
        have c5b0 : decide (x13_1 < (l1.length : Int)) = false := decide_eq_false c5
        clear c5
        replace H := Option.bind_eq_some_iff.mp H
        obtain ⟨⟨t288, t289, t290, t291, t292, t293, t294, t295⟩, A190, H⟩ := H
        replace H : (some (t288, t289, t290, t291, t292, t293, t294, t295)) = some (r1, r2, r3, r4, r5, r6, r7, r8) := H
        have A19 := Aside0.mk A190
        clear A190
        simp only [Option.some.injEq, Prod.mk.injEq] at H
        obtain ⟨rfl, rfl, rfl, rfl, rfl, rfl, rfl, rfl⟩ := H
        obtain ⟨Ao20, co20, eo20⟩ := Kd.R_slice HO_7.out
        subst eo20
        go_wp2_with (first | ((with_reducible refine gate_callee (f := 19) rfl ?_); refine goesL_ (some 35) rfl rfl Tryz.func19 (by kernel_rfl) rfl #[.string a0, .slice Ao20 x7_1.length co20] rfl (by (try simp only [List.map_toArray, List.map_cons, List.map_nil]); first | done | rfl | (simp only [List.length_drop, List.length_take]; rfl)) ?_; (with_reducible refine (spec_recordNode.calls a0 (fun k_ => ((w.heap.size ≤ k_) ∧ k_ ≠ gb259)) _ _ x7_1 t288 t289 t290 t291 t292 t293 t294 t295 _ ?side1 A19.out).mono ?_); (case side1 => exact Kd.R_V (HO_7.out)); rintro e w21 ⟨v296, rfl, ho0, hb⟩; refine ⟨_, rfl, ?_⟩; have n0_ := Aside0.mk (Kd.R_below (by (with_reducible repeat (first | apply Kd.R_alloc | apply Kd.R_drewN | apply Kd.R_drew)); exact HO_7.out) hb); have n1_ := Aside0.mk (Kd.V_lower (Kd.V_mono (ok' := fun k_ => (w.heap.size ≤ k_) ∧ k_ ≠ gb259) ho0 (fun k_ hk_ => ⟨Or.elim hk_ (fun hs_ => hs_.1) (fun hn_ => (Nat.le_trans (below_size (by repeat (first | (with_reducible first | exact HB.out | apply below_alloc | apply pw_below_drewN | apply below_drew1 | refine below_set ?_ GE259.out) | exact HB.out))) hn_)), Or.elim hk_ (fun hs_ => hs_.2) (fun hn_ => (Kd.freshB (g := gb259) (o := .cells #[.string (⟨#[]⟩ : ByteArray), .int .i64 0, .bool false, .int .i64 0, .int .u64 0, .float .f64 (0 : Nat), .string (⟨#[]⟩ : ByteArray), .slice none 0 0] 39 (0, 0)) (by (with_reducible repeat (first | refine blk_drewN ?_ _ | refine blk_drew ?_ | refine blk_alloc ?_ _)); exact BK259.out) k_ hn_))⟩)) (below_size (by repeat (first | (with_reducible first | exact HB.out | apply below_alloc | apply pw_below_drewN | apply below_drew1 | refine below_set ?_ GE259.out) | exact HB.out)))); have n2_ := Aside0.mk (blk_below (g := gb259) (o := .cells #[.string (⟨#[]⟩ : ByteArray), .int .i64 0, .bool false, .int .i64 0, .int .u64 0, .float .f64 (0 : Nat), .string (⟨#[]⟩ : ByteArray), .slice none 0 0] 39 (0, 0)) (by (with_reducible repeat (first | refine blk_drewN ?_ _ | refine blk_drew ?_ | refine blk_alloc ?_ _)); exact BK259.out) hb); have n3_ := Aside0.mk (below_step (by repeat (first | (with_reducible first | exact HB.out | apply below_alloc | apply pw_below_drewN | apply below_drew1 | refine below_set ?_ GE259.out) | exact HB.out)) hb); clear HO_7; clear BK259; clear HB; have HO_7 := n0_; have HO297 := n1_; have BK259 := n2_; have HB := n3_; clear n0_ n1_ n2_ n3_; (try clear hb); (try clear hb2); (try clear hk); (try clear hi); (try clear ho0); have hcz22_0 : w21.cell? ⟨gb259, 0, none⟩ = some (.string (⟨#[]⟩ : ByteArray)) := (blk_cell BK259.out 0).trans rfl; have hcz22_1 : w21.cell? ⟨gb259, 1, none⟩ = some (.int .i64 0) := (blk_cell BK259.out 1).trans rfl; have hcz22_2 : w21.cell? ⟨gb259, 2, none⟩ = some (.bool false) := (blk_cell BK259.out 2).trans rfl; have hcz22_3 : w21.cell? ⟨gb259, 3, none⟩ = some (.int .i64 0) := (blk_cell BK259.out 3).trans rfl; have hcz22_4 : w21.cell? ⟨gb259, 4, none⟩ = some (.int .u64 0) := (blk_cell BK259.out 4).trans rfl; have hcz22_5 : w21.cell? ⟨gb259, 5, none⟩ = some (.float .f64 (0 : Nat)) := (blk_cell BK259.out 5).trans rfl; have hcz22_6 : w21.cell? ⟨gb259, 6, none⟩ = some (.string (⟨#[]⟩ : ByteArray)) := (blk_cell BK259.out 6).trans rfl; have hcz22_7 : w21.cell? ⟨gb259, 7, none⟩ = some (.slice none 0 0) := (blk_cell BK259.out 7).trans rfl; have hfz22_0 := blk_frozen BK259.out 0; have hfz22_1 := blk_frozen BK259.out 1; have hfz22_2 := blk_frozen BK259.out 2; have hfz22_3 := blk_frozen BK259.out 3; have hfz22_4 := blk_frozen BK259.out 4; have hfz22_5 := blk_frozen BK259.out 5; have hfz22_6 := blk_frozen BK259.out 6; have hfz22_7 := blk_frozen BK259.out 7; obtain ⟨Ao23, co23, eo23⟩ := Kd.V_slice HO297.out; subst eo23))
        refine bodyPost_ret (results_cell_row rfl _ _ gb259 39 #[.string t288, .int .i64 t289, .bool t290, .int .i64 t291, .int .u64 t292, .float .f64 t293, .string t294, .slice Ao23 t295.length co23] (0, 0) _ rfl (by (with_reducible repeat (first | refine blk_drewN ?_ _ | refine blk_drew ?_ | refine blk_alloc ?_ _)); refine blk_put (cs := #[.string t288, .int .i64 t289, .bool t290, .int .i64 t291, .int .u64 t292, .float .f64 t293, .string t294, .slice none 0 0]) ?_ 7 _ rfl; (with_reducible repeat (first | refine blk_drewN ?_ _ | refine blk_drew ?_ | refine blk_alloc ?_ _)); refine blk_put (cs := #[.string t288, .int .i64 t289, .bool t290, .int .i64 t291, .int .u64 t292, .float .f64 t293, .string (⟨#[]⟩ : ByteArray), .slice none 0 0]) ?_ 6 _ rfl; (with_reducible repeat (first | refine blk_drewN ?_ _ | refine blk_drew ?_ | refine blk_alloc ?_ _)); refine blk_put (cs := #[.string t288, .int .i64 t289, .bool t290, .int .i64 t291, .int .u64 t292, .float .f64 (0 : Nat), .string (⟨#[]⟩ : ByteArray), .slice none 0 0]) ?_ 5 _ rfl; (with_reducible repeat (first | refine blk_drewN ?_ _ | refine blk_drew ?_ | refine blk_alloc ?_ _)); refine blk_put (cs := #[.string t288, .int .i64 t289, .bool t290, .int .i64 t291, .int .u64 0, .float .f64 (0 : Nat), .string (⟨#[]⟩ : ByteArray), .slice none 0 0]) ?_ 4 _ rfl; (with_reducible repeat (first | refine blk_drewN ?_ _ | refine blk_drew ?_ | refine blk_alloc ?_ _)); refine blk_put (cs := #[.string t288, .int .i64 t289, .bool t290, .int .i64 0, .int .u64 0, .float .f64 (0 : Nat), .string (⟨#[]⟩ : ByteArray), .slice none 0 0]) ?_ 3 _ rfl; (with_reducible repeat (first | refine blk_drewN ?_ _ | refine blk_drew ?_ | refine blk_alloc ?_ _)); refine blk_put (cs := #[.string t288, .int .i64 t289, .bool false, .int .i64 0, .int .u64 0, .float .f64 (0 : Nat), .string (⟨#[]⟩ : ByteArray), .slice none 0 0]) ?_ 2 _ rfl; (with_reducible repeat (first | refine blk_drewN ?_ _ | refine blk_drew ?_ | refine blk_alloc ?_ _)); refine blk_put (cs := #[.string t288, .int .i64 0, .bool false, .int .i64 0, .int .u64 0, .float .f64 (0 : Nat), .string (⟨#[]⟩ : ByteArray), .slice none 0 0]) ?_ 1 _ rfl; (with_reducible repeat (first | refine blk_drewN ?_ _ | refine blk_drew ?_ | refine blk_alloc ?_ _)); refine blk_put (cs := #[.string (⟨#[]⟩ : ByteArray), .int .i64 0, .bool false, .int .i64 0, .int .u64 0, .float .f64 (0 : Nat), .string (⟨#[]⟩ : ByteArray), .slice none 0 0]) ?_ 0 _ rfl; (with_reducible repeat (first | refine blk_drewN ?_ _ | refine blk_drew ?_ | refine blk_alloc ?_ _)); exact BK259.out) Tryz.underlying39 rfl (by kernel_rfl)) rfl ?_
        exact ⟨_, by first | rfl | (simp [errW_none, errW_some] <;> rfl) | (simp [*, errW_none, errW_some] <;> rfl), by (with_reducible repeat (first | apply Kd.V_alloc | apply Kd.V_drewN | apply Kd.V_drew)); exact Kd.V_mono (Kd.V_far (p := ⟨gb259, 7, none⟩) (Kd.V_far (p := ⟨gb259, 6, none⟩) (Kd.V_far (p := ⟨gb259, 5, none⟩) (Kd.V_far (p := ⟨gb259, 4, none⟩) (Kd.V_far (p := ⟨gb259, 3, none⟩) (Kd.V_far (p := ⟨gb259, 2, none⟩) (Kd.V_far (p := ⟨gb259, 1, none⟩) (Kd.V_far (p := ⟨gb259, 0, none⟩) (Kd.V_mono HO297.out (fun k_ hk => (⟨hk, hk.2⟩ : _ ∧ k_ ≠ gb259))) (fun _ hk => hk.2) (.string t288)) (fun _ hk => hk.2) (.int .i64 t289)) (fun _ hk => hk.2) (.bool t290)) (fun _ hk => hk.2) (.int .i64 t291)) (fun _ hk => hk.2) (.int .u64 t292)) (fun _ hk => hk.2) (.float .f64 t293)) (fun _ hk => hk.2) (.string t294)) (fun _ hk => hk.2) (.slice Ao23 t295.length co23)) (fun _ hk => hk.1.1), by repeat (first | (with_reducible first | exact HB.out | apply below_alloc | apply pw_below_drewN | apply below_drew1 | refine below_set ?_ GE259.out) | exact HB.out)⟩

end Go.Proofs.YtfcalbjebomgcaaGreatDoor.Q
