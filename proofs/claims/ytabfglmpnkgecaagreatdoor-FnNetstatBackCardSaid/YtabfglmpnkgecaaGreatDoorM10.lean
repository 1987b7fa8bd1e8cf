-- Written by a program of this claim's session (after the kit's print, with a kind for float64). Lean checks it.
import Derived.Test.YtabfglmpnkgecaaGreatDoorM01
import Derived.Test.YtabfglmpnkgecaaGreatDoorM03
set_option linter.unusedVariables false
set_option linter.unusedSimpArgs false
namespace Go.Proofs.YtabfglmpnkgecaaGreatDoor.Q
open Go.RowKit Go.Proofs.YtabfglmpnkgecaaGreatDoorW.PrintWords Go.Proofs.YtabfglmpnkgecaaGreatDoorW.PrintLast Go.Proofs.YtabfglmpnkgecaaGreatDoorW.PrintMore
attribute [local go_sem] max2_int min2_int max_two min_two max_three min_three max_four min_four   -- for this text's walks alone
set_option linter.unusedVariables false
set_option linter.unusedSimpArgs false

/-! ### spec_netstatGroups: function 14 -/
def spec_netstatGroups.f  : Option (List ByteArray) := some (([(⟨#[84, 99, 112, 69, 120, 116]⟩ : ByteArray), (⟨#[73, 112, 69, 120, 116]⟩ : ByteArray)] : List ByteArray))
set_option maxHeartbeats 8000000 in
set_option maxRecDepth 100000 in
theorem spec_netstatGroups.calls  (r : List ByteArray) (w : World) (h : spec_netstatGroups.f  = some r) :
    Calls Tryz.prog 14 #[] w fun e w' => ∃ v0_ : Value, e = .returned (v0_) ∧ Kd.R Kd.string 9 w' w.heap.size (fun _ => True) v0_ r ∧ Below w.heap.size w w' := by
  have HB := Aside0.mk (Below.refl w.heap.size w)
  have H : (some (([(⟨#[84, 99, 112, 69, 120, 116]⟩ : ByteArray), (⟨#[73, 112, 69, 120, 116]⟩ : ByteArray)] : List ByteArray))) = some r := h
  clear h
  obtain ⟨y163, hy163⟩ : ∃ y_ : List ByteArray, y_ = (([(⟨#[84, 99, 112, 69, 120, 116]⟩ : ByteArray), (⟨#[73, 112, 69, 120, 116]⟩ : ByteArray)] : List ByteArray)) := ⟨_, rfl⟩
  replace H : (some y163) = some r := by first | (rw [hy163]; with_reducible exact H) | (have H2_ := (Option.bind_some _ _).symm.trans H; rw [hy163]; with_reducible exact H2_) | (have H2_ := (Option.bind_some _ _).symm.trans H; with_reducible exact H2_) | with_reducible exact H | (rw [hy163]; exact H) | exact H
  have Ny163 := Aside0.mk hy163
  clear hy163
  obtain rfl := Option.some.inj H
  go_enter Tryz.func14, Tryz.ntmps14
  go_wp2_with (first | ((with_reducible refine gate_dst (N := 1) rfl ?_); refine Kd.R_lit Kd.string _ 9 ?hg (N := 1) ?hd (xs := ([(⟨#[84, 99, 112, 69, 120, 116]⟩ : ByteArray), (⟨#[73, 112, 69, 120, 116]⟩ : ByteArray)] : List ByteArray)) (inner := [.string (⟨#[84, 99, 112, 69, 120, 116]⟩ : ByteArray), .string (⟨#[73, 112, 69, 120, 116]⟩ : ByteArray)]) (ok := fun _ => True) (okp := fun _ => True) ?hr ?hp (fun _ hk => hk) trivial (Below.refl _ _) (Nat.le_refl _) (by simp) ?_; (case hd => rfl); (case hg => rfl); (case hr => first | (go_simp; done) | (go_simp; rfl)); (case hp => exact (Reps.one (show Kd.M Kd.string _ _ _ (⟨#[84, 99, 112, 69, 120, 116]⟩ : ByteArray) [.string (⟨#[84, 99, 112, 69, 120, 116]⟩ : ByteArray)] from rfl) (Reps.one (show Kd.M Kd.string _ _ _ (⟨#[73, 112, 69, 120, 116]⟩ : ByteArray) [.string (⟨#[73, 112, 69, 120, 116]⟩ : ByteArray)] from rfl) (Reps.none _ _)))); intro v164 w1 ho2 hb hg_ hnew_; clear hg_ hnew_; (first | rw [← Ny163.out] at ho2 | (simp only [Int.reduceToNat] at ho2; rw [← Ny163.out] at ho2)); have n0_ := Aside0.mk (Kd.R_lower ho2 (below_size (by repeat (first | (with_reducible first | exact HB.out | apply below_alloc | apply pw_below_drewN | apply below_drew1) | exact HB.out)))); have n1_ := Aside0.mk (below_step (by repeat (first | (with_reducible first | exact HB.out | apply below_alloc | apply pw_below_drewN | apply below_drew1) | exact HB.out)) hb); clear HB; have HO165 := n0_; have HB := n1_; clear n0_ n1_; clear hb ho2))
  go_ret
  exact ⟨_, by first | rfl | (simp [errW_none, errW_some] <;> rfl) | (simp [*, errW_none, errW_some] <;> rfl), by (with_reducible repeat (first | apply Kd.R_alloc | apply Kd.R_drewN | apply Kd.R_drew)); exact HO165.out, by repeat (first | (with_reducible first | exact HB.out | apply below_alloc | apply pw_below_drewN | apply below_drew1) | exact HB.out)⟩

end Go.Proofs.YtabfglmpnkgecaaGreatDoor.Q

-- Written by a program of this claim's session (after the kit's print, with a kind for float64). Lean checks it.
namespace Go.Proofs.YtabfglmpnkgecaaGreatDoor.Q
open Go.RowKit Go.Proofs.YtabfglmpnkgecaaGreatDoorW.PrintWords Go.Proofs.YtabfglmpnkgecaaGreatDoorW.PrintLast Go.Proofs.YtabfglmpnkgecaaGreatDoorW.PrintMore
attribute [local go_sem] max2_int min2_int max_two min_two max_three min_three max_four min_four   -- for this text's walks alone
set_option linter.unusedVariables false
set_option linter.unusedSimpArgs false

/-! ### spec_groupsPrint: function 15 -/
mutual
def spec_groupsPrint.l0 : Nat → ByteArray → List (S31) → Int → Int → Option (ByteArray)
  | 0, _, _, _, _ => none
  | k + 1, x3, x10, x11, x12 => if x12 < x11 then (if 0 ≤ x12 then (if x12 < (x10.length : Int) then (if ((rd_T31 x10 x12).f0).size + 1 ≤ 9223372036854775807 then (spec_groupsPrint.l1 k x3 (((rd_T31 x10 x12).f0) ++ (⟨#[58]⟩ : ByteArray)) (((rd_T31 x10 x12).f0) ++ (⟨#[58]⟩ : ByteArray)) x10 x11 x12 ((rd_T31 x10 x12).f2) (((rd_T31 x10 x12).f2).length : Int) 0 ((rd_T31 x10 x12).f0) ((rd_T31 x10 x12).f1) ((rd_T31 x10 x12).f2)) else (none)) else (none)) else (none)) else (some x3)
def spec_groupsPrint.l1 : Nat → ByteArray → ByteArray → ByteArray → List (S31) → Int → Int → List ByteArray → Int → Int → ByteArray → List Int → List ByteArray → Option (ByteArray)
  | 0, _, _, _, _, _, _, _, _, _, _, _, _ => none
  | k + 1, x3, x6, x7, x10, x11, x12, x23, x24, x25, x178000, x178001, x178002 => if x25 < x24 then (if 0 ≤ x25 then (if x25 < (x23.length : Int) then (if 1 + (rdOf ByteArray.empty x23 x25).size ≤ 9223372036854775807 then (if x6.size + ((⟨#[32]⟩ : ByteArray) ++ (rdOf ByteArray.empty x23 x25)).size ≤ 9223372036854775807 then (if x25 < (x178001.length : Int) then ((spec_SignedText.f k (wrap64 (rd x178001 x25))).bind fun t180 => (if 1 + t180.size ≤ 9223372036854775807 then (if x7.size + ((⟨#[32]⟩ : ByteArray) ++ t180).size ≤ 9223372036854775807 then (spec_groupsPrint.l1 k x3 (x6 ++ ((⟨#[32]⟩ : ByteArray) ++ (rdOf ByteArray.empty x23 x25))) (x7 ++ ((⟨#[32]⟩ : ByteArray) ++ t180)) x10 x11 x12 x23 x24 (wrap64 (x25 + 1)) x178000 x178001 x178002) else (none)) else (none))) else (none)) else (none)) else (none)) else (none)) else (none)) else (if x6.size + 1 ≤ 9223372036854775807 then (if (x6 ++ (⟨#[10]⟩ : ByteArray)).size + x7.size ≤ 9223372036854775807 then (if ((x6 ++ (⟨#[10]⟩ : ByteArray)) ++ x7).size + 1 ≤ 9223372036854775807 then (if x3.size + (((x6 ++ (⟨#[10]⟩ : ByteArray)) ++ x7) ++ (⟨#[10]⟩ : ByteArray)).size ≤ 9223372036854775807 then (spec_groupsPrint.l0 k (x3 ++ (((x6 ++ (⟨#[10]⟩ : ByteArray)) ++ x7) ++ (⟨#[10]⟩ : ByteArray))) x10 x11 (wrap64 (x12 + 1))) else (none)) else (none)) else (none)) else (none))
end
def spec_groupsPrint.f (k : Nat) (l0 : List (S31)) : Option (ByteArray) := spec_groupsPrint.l0 k (⟨#[]⟩ : ByteArray) l0 (l0.length : Int) 0
theorem spec_groupsPrint.mono_l : ∀ k, (∀ y0 y1 y2 y3, LeO (spec_groupsPrint.l0 k y0 y1 y2 y3) (spec_groupsPrint.l0 (k + 1) y0 y1 y2 y3)) ∧ (∀ y0 y1 y2 y3 y4 y5 y6 y7 y8 y9 y10 y11, LeO (spec_groupsPrint.l1 k y0 y1 y2 y3 y4 y5 y6 y7 y8 y9 y10 y11) (spec_groupsPrint.l1 (k + 1) y0 y1 y2 y3 y4 y5 y6 y7 y8 y9 y10 y11))
  | 0 => ⟨fun _ _ _ _ r h => by simp [spec_groupsPrint.l0] at h, fun _ _ _ _ _ _ _ _ _ _ _ _ r h => by simp [spec_groupsPrint.l1] at h⟩
  | k + 1 => by
    obtain ⟨ih0, ih1⟩ := spec_groupsPrint.mono_l k
    refine ⟨?_, ?_⟩
    · intro y0 y1 y2 y3
      unfold spec_groupsPrint.l0
      repeat' first
      | (with_reducible exact ih0 _ _ _ _)
      | (with_reducible exact ih1 _ _ _ _ _ _ _ _ _ _ _ _)
      | (with_reducible exact spec_SignedText.mono _ _)
      | (with_reducible exact LeO.refl _)
      | (with_reducible exact LeO.none _)
      | (with_reducible refine LeO.ite ?_ ?_)
      | (with_reducible refine LeO.bind ?_ (fun _ => ?_))
      | exact ih0 _ _ _ _
      | exact ih1 _ _ _ _ _ _ _ _ _ _ _ _
      | exact spec_SignedText.mono _ _
      | exact LeO.none _
      | refine LeO.ite ?_ ?_
      | refine LeO.bind ?_ (fun _ => ?_)
    · intro y0 y1 y2 y3 y4 y5 y6 y7 y8 y9 y10 y11
      unfold spec_groupsPrint.l1
      repeat' first
      | (with_reducible exact ih0 _ _ _ _)
      | (with_reducible exact ih1 _ _ _ _ _ _ _ _ _ _ _ _)
      | (with_reducible exact spec_SignedText.mono _ _)
      | (with_reducible exact LeO.refl _)
      | (with_reducible exact LeO.none _)
      | (with_reducible refine LeO.ite ?_ ?_)
      | (with_reducible refine LeO.bind ?_ (fun _ => ?_))
      | exact ih0 _ _ _ _
      | exact ih1 _ _ _ _ _ _ _ _ _ _ _ _
      | exact spec_SignedText.mono _ _
      | exact LeO.none _
      | refine LeO.ite ?_ ?_
      | refine LeO.bind ?_ (fun _ => ?_)
theorem spec_groupsPrint.mono : ∀ a0 k, LeO (spec_groupsPrint.f k a0) (spec_groupsPrint.f (k + 1) a0) := by
  intro a0 k
  obtain ⟨ih0, ih1⟩ := spec_groupsPrint.mono_l k
  unfold spec_groupsPrint.f
  repeat' first
      | (with_reducible exact ih0 _ _ _ _)
      | (with_reducible exact ih1 _ _ _ _ _ _ _ _ _ _ _ _)
      | (with_reducible exact spec_SignedText.mono _ _)
      | (with_reducible exact LeO.refl _)
      | (with_reducible exact LeO.none _)
      | (with_reducible refine LeO.ite ?_ ?_)
      | (with_reducible refine LeO.bind ?_ (fun _ => ?_))
      | exact ih0 _ _ _ _
      | exact ih1 _ _ _ _ _ _ _ _ _ _ _ _
      | exact spec_SignedText.mono _ _
      | exact LeO.none _
      | refine LeO.ite ?_ ?_
      | refine LeO.bind ?_ (fun _ => ?_)
set_option maxHeartbeats 8000000 in
set_option maxRecDepth 100000 in
theorem spec_groupsPrint.calls (k : Nat) (A0 : Option Addr) (c0 : Nat) (l0 : List (S31)) (r : ByteArray) (w : World) (hr0 : Kd.C k31 w A0 l0.length l0) (hc0 : l0.length ≤ c0) (h : spec_groupsPrint.f k l0 = some r) :
    Calls Tryz.prog 15 #[.slice A0 l0.length c0] w fun e w' => e = .returned (.string r) ∧ Below w.heap.size w w' := by
  have hu31 := Tryz.underlying31
  have HR0 := Aside0.mk hr0
  have HC0 := Aside0.mk hc0
  clear hr0 hc0
  have HB := Aside0.mk (Below.refl w.heap.size w)
  have H : (spec_groupsPrint.l0 k (⟨#[]⟩ : ByteArray) l0 (l0.length : Int) 0) = some r := h
  clear h
  have H' := Aside0.mk H
  clear H
  go_enter Tryz.func15, Tryz.ntmps15
  go_wp2
  repeat (go_quiet (fail); try go_wp2)
  go_loopg [3, 12] k (fun kq v3 v12 w' => ∃ (x3_1 : ByteArray) (x12_1 : Int), v3 = .string x3_1 ∧ v12 = .int .i64 x12_1 ∧ Aside0 (spec_groupsPrint.l0 kq x3_1 l0 (l0.length : Int) x12_1 = some r) ∧ Aside0 (kq ≤ k) ∧ Aside0 (Below w.heap.size w w'))
  case atStart => exact ⟨((⟨#[]⟩ : ByteArray)), (0), (by first | rfl | (simp; done) | (simp [*]; done)), (by first | rfl | (simp; done) | (simp [*]; done)), H', ⟨Nat.le_refl _⟩, ⟨by repeat (first | (with_reducible first | exact HB.out | apply below_alloc | apply pw_below_drewN | apply below_drew1) | exact HB.out)⟩⟩
  case round =>
    clear H'
    try clear c1
    obtain ⟨x3_1, x12_1, rfl, rfl, HA, HK1, HB⟩ := hrel
    cases gk with
    | zero => exact absurd HA.out (by simp [spec_groupsPrint.l0])
    | succ k1 =>
      have H := HA.out
      clear HA
      simp only [spec_groupsPrint.l0] at H
      by_cases c2 : x12_1 < (l0.length : Int)
      · rw [if_pos c2] at H
        have c2b0 : decide (x12_1 < (l0.length : Int)) = true := decide_eq_true c2
        clear c2
        by_cases c3 : 0 ≤ x12_1
        · rw [if_pos c3] at H
          have c3b0 : decide (0 ≤ x12_1) = true := decide_eq_true c3
          clear c3
          by_cases c4 : x12_1 < (l0.length : Int)
          · rw [if_pos c4] at H
            have c4b0 : decide (x12_1 < (l0.length : Int)) = true := decide_eq_true c4
            clear c4
            by_cases c5 : ((rd_T31 l0 x12_1).f0).size + 1 ≤ 9223372036854775807
            · rw [if_pos c5] at H
              have c5b0 := eq_true c5
              have c5b1 : decide (((rd_T31 l0 x12_1).f0).size + 1 ≤ 9223372036854775807) = true := decide_eq_true c5
              try have c5b2 : (9223372036854775807 < ((rd_T31 l0 x12_1).f0).size + 1) = False := eq_false (Nat.not_lt.2 c5)
              have H' := Aside0.mk H
              clear H
              have p176 : 0 ≤ (x12_1 : Int) := of_decide_eq_true (by first | (with_reducible assumption) | assumption)
              have q176 : x12_1 < (l0.length : Int) := of_decide_eq_true (by first | (with_reducible assumption) | assumption)
              obtain ⟨ad176, A176_1, c176_1, A176_2, c176_2, e176, hx176_0, hx176_1, hx176_2, hl176_1, hi176_1, hl176_2, hi176_2⟩ := at_T31 HR0.out x12_1 p176 q176
              cases e176
              replace hx176_0 := (HB.out.cell (World.block_lt_of_cell? w _ hx176_0)).trans hx176_0
              replace hx176_1 := (HB.out.cell (World.block_lt_of_cell? w _ hx176_1)).trans hx176_1
              replace hx176_2 := (HB.out.cell (World.block_lt_of_cell? w _ hx176_2)).trans hx176_2
              have HR176_1 := Aside0.mk hi176_1
              have HC176_1 := Aside0.mk hl176_1
              clear hi176_1 hl176_1
              have HR176_2 := Aside0.mk hi176_2
              have HC176_2 := Aside0.mk hl176_2
              clear hi176_2 hl176_2
              replace p176 := eq_true p176
              replace q176 := eq_true q176
              go_wp2_with (first | ((with_reducible refine gate_dst (N := 5) rfl ?_); refine box_event ?hg (N := 5) ?hd (cs := #[.string (⟨#[]⟩ : ByteArray), .slice none 0 0, .slice none 0 0]) (t := 31) ?hr ?_; (case hd => rfl); (case hg => rfl); (case hr => first | (go_simp; done) | (go_simp; rfl)); intro gb177 hg w6 hbox hb; have n0_ := Aside0.mk (below_step (by repeat (first | (with_reducible first | exact HB.out | apply below_alloc | apply pw_below_drewN | apply below_drew1) | exact HB.out)) hb); have n1_ := Aside0.mk (hbox); have n2_ := Aside0.mk ((by rw [hg]; exact (below_size (by repeat (first | (with_reducible first | exact HB.out | apply below_alloc | apply pw_below_drewN | apply below_drew1) | exact HB.out))) : w.heap.size ≤ gb177)); have n3_ := Aside0.mk ((by rw [hg]; exact (below_size (by repeat (first | (with_reducible first | exact HB.out | apply below_alloc | apply pw_below_drewN | apply below_drew1) | exact HB.out))) : w.heap.size ≤ gb177)); clear HB; have HB := n0_; have BK177 := n1_; have GW177 := n2_; have GE177 := n3_; clear n0_ n1_ n2_ n3_; clear hb hbox hg; have hcz7_0 : w6.cell? ⟨gb177, 0, none⟩ = some (.string (⟨#[]⟩ : ByteArray)) := (blk_cell BK177.out 0).trans rfl; have hcz7_1 : w6.cell? ⟨gb177, 1, none⟩ = some (.slice none 0 0) := (blk_cell BK177.out 1).trans rfl; have hcz7_2 : w6.cell? ⟨gb177, 2, none⟩ = some (.slice none 0 0) := (blk_cell BK177.out 2).trans rfl; have hfz7_0 := blk_frozen BK177.out 0; have hfz7_1 := blk_frozen BK177.out 1; have hfz7_2 := blk_frozen BK177.out 2))
              repeat (go_quiet (first | ((with_reducible refine gate_dst (N := 5) rfl ?_); refine box_event ?hg (N := 5) ?hd (cs := #[.string (⟨#[]⟩ : ByteArray), .slice none 0 0, .slice none 0 0]) (t := 31) ?hr ?_; (case hd => rfl); (case hg => rfl); (case hr => first | (go_simp; done) | (go_simp; rfl)); intro gb177 hg w6 hbox hb; have n0_ := Aside0.mk (below_step (by repeat (first | (with_reducible first | exact HB.out | apply below_alloc | apply pw_below_drewN | apply below_drew1) | exact HB.out)) hb); have n1_ := Aside0.mk (hbox); have n2_ := Aside0.mk ((by rw [hg]; exact (below_size (by repeat (first | (with_reducible first | exact HB.out | apply below_alloc | apply pw_below_drewN | apply below_drew1) | exact HB.out))) : w.heap.size ≤ gb177)); have n3_ := Aside0.mk ((by rw [hg]; exact (below_size (by repeat (first | (with_reducible first | exact HB.out | apply below_alloc | apply pw_below_drewN | apply below_drew1) | exact HB.out))) : w.heap.size ≤ gb177)); clear HB; have HB := n0_; have BK177 := n1_; have GW177 := n2_; have GE177 := n3_; clear n0_ n1_ n2_ n3_; clear hb hbox hg; have hcz7_0 : w6.cell? ⟨gb177, 0, none⟩ = some (.string (⟨#[]⟩ : ByteArray)) := (blk_cell BK177.out 0).trans rfl; have hcz7_1 : w6.cell? ⟨gb177, 1, none⟩ = some (.slice none 0 0) := (blk_cell BK177.out 1).trans rfl; have hcz7_2 : w6.cell? ⟨gb177, 2, none⟩ = some (.slice none 0 0) := (blk_cell BK177.out 2).trans rfl; have hfz7_0 := blk_frozen BK177.out 0; have hfz7_1 := blk_frozen BK177.out 1; have hfz7_2 := blk_frozen BK177.out 2)); try go_wp2_with (first | ((with_reducible refine gate_dst (N := 5) rfl ?_); refine box_event ?hg (N := 5) ?hd (cs := #[.string (⟨#[]⟩ : ByteArray), .slice none 0 0, .slice none 0 0]) (t := 31) ?hr ?_; (case hd => rfl); (case hg => rfl); (case hr => first | (go_simp; done) | (go_simp; rfl)); intro gb177 hg w6 hbox hb; have n0_ := Aside0.mk (below_step (by repeat (first | (with_reducible first | exact HB.out | apply below_alloc | apply pw_below_drewN | apply below_drew1) | exact HB.out)) hb); have n1_ := Aside0.mk (hbox); have n2_ := Aside0.mk ((by rw [hg]; exact (below_size (by repeat (first | (with_reducible first | exact HB.out | apply below_alloc | apply pw_below_drewN | apply below_drew1) | exact HB.out))) : w.heap.size ≤ gb177)); have n3_ := Aside0.mk ((by rw [hg]; exact (below_size (by repeat (first | (with_reducible first | exact HB.out | apply below_alloc | apply pw_below_drewN | apply below_drew1) | exact HB.out))) : w.heap.size ≤ gb177)); clear HB; have HB := n0_; have BK177 := n1_; have GW177 := n2_; have GE177 := n3_; clear n0_ n1_ n2_ n3_; clear hb hbox hg; have hcz7_0 : w6.cell? ⟨gb177, 0, none⟩ = some (.string (⟨#[]⟩ : ByteArray)) := (blk_cell BK177.out 0).trans rfl; have hcz7_1 : w6.cell? ⟨gb177, 1, none⟩ = some (.slice none 0 0) := (blk_cell BK177.out 1).trans rfl; have hcz7_2 : w6.cell? ⟨gb177, 2, none⟩ = some (.slice none 0 0) := (blk_cell BK177.out 2).trans rfl; have hfz7_0 := blk_frozen BK177.out 0; have hfz7_1 := blk_frozen BK177.out 1; have hfz7_2 := blk_frozen BK177.out 2)))
              go_loopg [6, 7, 25] k1 (fun kq v6 v7 v25 w' => ∃ (x6_2 : ByteArray) (x7_2 : ByteArray) (x25_2 : Int), v6 = .string x6_2 ∧ v7 = .string x7_2 ∧ v25 = .int .i64 x25_2 ∧ Aside0 (spec_groupsPrint.l1 kq x3_1 x6_2 x7_2 l0 (l0.length : Int) x12_1 ((rd_T31 l0 x12_1).f2) (((rd_T31 l0 x12_1).f2).length : Int) x25_2 ((rd_T31 l0 x12_1).f0) ((rd_T31 l0 x12_1).f1) ((rd_T31 l0 x12_1).f2) = some r) ∧ Aside0 (kq ≤ k1) ∧ Aside0 (w'.heap[gb177]? = some (.cells #[.string ((rd_T31 l0 x12_1).f0), (.slice A176_1 ((rd_T31 l0 x12_1).f1).length c176_1), (.slice A176_2 ((rd_T31 l0 x12_1).f2).length c176_2)] 31 (0, 0))) ∧ Aside0 (Below w.heap.size w w'))
              case atStart => exact ⟨(((rd_T31 l0 x12_1).f0) ++ (⟨#[58]⟩ : ByteArray)), (((rd_T31 l0 x12_1).f0) ++ (⟨#[58]⟩ : ByteArray)), (0), (by first | rfl | (simp; done) | (simp [*]; done)), (by first | rfl | (simp; done) | (simp [*]; done)), (by first | rfl | (simp; done) | (simp [*]; done)), H', ⟨Nat.le_refl _⟩, ⟨by (with_reducible repeat (first | refine blk_drewN ?_ _ | refine blk_drew ?_ | refine blk_alloc ?_ _)); refine blk_put (cs := #[.string ((rd_T31 l0 x12_1).f0), .slice A176_1 ((rd_T31 l0 x12_1).f1).length c176_1, .slice none 0 0]) ?_ 2 _ rfl; (with_reducible repeat (first | refine blk_drewN ?_ _ | refine blk_drew ?_ | refine blk_alloc ?_ _)); refine blk_put (cs := #[.string ((rd_T31 l0 x12_1).f0), .slice none 0 0, .slice none 0 0]) ?_ 1 _ rfl; (with_reducible repeat (first | refine blk_drewN ?_ _ | refine blk_drew ?_ | refine blk_alloc ?_ _)); refine blk_put (cs := #[.string (⟨#[]⟩ : ByteArray), .slice none 0 0, .slice none 0 0]) ?_ 0 _ rfl; (with_reducible repeat (first | refine blk_drewN ?_ _ | refine blk_drew ?_ | refine blk_alloc ?_ _)); exact BK177.out⟩, ⟨by repeat (first | (with_reducible first | exact HB.out | apply below_alloc | apply pw_below_drewN | apply below_drew1 | refine below_set ?_ GE177.out) | exact HB.out)⟩⟩
              case round =>
                clear H'
                try clear c1
                try clear p1
                try clear q1
                try clear hx1
                try clear c2
                try clear c2b0
                try clear p2
                try clear c3
                try clear c3b0
                try clear c4
                try clear c4b0
                try clear c5
                try clear c5b0
                try clear c5b1
                try clear c5b2
                try clear hcz7_0
                try clear hcz7_1
                try clear hcz7_2
                try clear hfz7_0
                try clear hfz7_1
                try clear hfz7_2
                try clear hx176_0
                try clear hx176_1
                try clear hx176_2
                try clear p176
                try clear q176
                obtain ⟨x6_2, x7_2, x25_2, rfl, rfl, rfl, HA, HK2, BK177, HB⟩ := hrel
                cases gk with
                | zero => exact absurd HA.out (by simp [spec_groupsPrint.l1])
                | succ k2 =>
                  have H := HA.out
                  clear HA
                  simp only [spec_groupsPrint.l1] at H
                  by_cases c8 : x25_2 < (((rd_T31 l0 x12_1).f2).length : Int)
                  · rw [if_pos c8] at H
                    have c8b0 : decide (x25_2 < (((rd_T31 l0 x12_1).f2).length : Int)) = true := decide_eq_true c8
                    clear c8
                    by_cases c9 : 0 ≤ x25_2
                    · rw [if_pos c9] at H
                      have c9b0 : decide (0 ≤ x25_2) = true := decide_eq_true c9
                      clear c9
                      by_cases c10 : x25_2 < (((rd_T31 l0 x12_1).f2).length : Int)
                      · rw [if_pos c10] at H
                        have c10b0 : decide (x25_2 < (((rd_T31 l0 x12_1).f2).length : Int)) = true := decide_eq_true c10
                        clear c10
                        by_cases c11 : 1 + (rdOf ByteArray.empty ((rd_T31 l0 x12_1).f2) x25_2).size ≤ 9223372036854775807
                        · rw [if_pos c11] at H
                          have c11b0 := eq_true c11
                          have c11b1 : decide (1 + (rdOf ByteArray.empty ((rd_T31 l0 x12_1).f2) x25_2).size ≤ 9223372036854775807) = true := decide_eq_true c11
                          try have c11b2 : (9223372036854775807 < 1 + (rdOf ByteArray.empty ((rd_T31 l0 x12_1).f2) x25_2).size) = False := eq_false (Nat.not_lt.2 c11)
                          by_cases c12 : x6_2.size + ((⟨#[32]⟩ : ByteArray) ++ (rdOf ByteArray.empty ((rd_T31 l0 x12_1).f2) x25_2)).size ≤ 9223372036854775807
                          · rw [if_pos c12] at H
                            have c12b0 := eq_true c12
                            have c12b1 : decide (x6_2.size + ((⟨#[32]⟩ : ByteArray) ++ (rdOf ByteArray.empty ((rd_T31 l0 x12_1).f2) x25_2)).size ≤ 9223372036854775807) = true := decide_eq_true c12
                            try have c12b2 : (9223372036854775807 < x6_2.size + ((⟨#[32]⟩ : ByteArray) ++ (rdOf ByteArray.empty ((rd_T31 l0 x12_1).f2) x25_2)).size) = False := eq_false (Nat.not_lt.2 c12)
                            by_cases c13 : x25_2 < (((rd_T31 l0 x12_1).f1).length : Int)
                            · rw [if_pos c13] at H
                              have c13b0 : decide (x25_2 < (((rd_T31 l0 x12_1).f1).length : Int)) = true := decide_eq_true c13
                              clear c13
                              replace H := Option.bind_eq_some_iff.mp H
                              obtain ⟨t180, A140, H⟩ := H
                              replace H : (if 1 + t180.size ≤ 9223372036854775807 then (if x7_2.size + ((⟨#[32]⟩ : ByteArray) ++ t180).size ≤ 9223372036854775807 then (spec_groupsPrint.l1 k2 x3_1 (x6_2 ++ ((⟨#[32]⟩ : ByteArray) ++ (rdOf ByteArray.empty ((rd_T31 l0 x12_1).f2) x25_2))) (x7_2 ++ ((⟨#[32]⟩ : ByteArray) ++ t180)) l0 (l0.length : Int) x12_1 ((rd_T31 l0 x12_1).f2) (((rd_T31 l0 x12_1).f2).length : Int) (wrap64 (x25_2 + 1)) ((rd_T31 l0 x12_1).f0) ((rd_T31 l0 x12_1).f1) ((rd_T31 l0 x12_1).f2)) else (none)) else (none)) = some r := H
                              have A14 := Aside0.mk A140
                              clear A140
                              by_cases c15 : 1 + t180.size ≤ 9223372036854775807
                              · rw [if_pos c15] at H
                                have c15b0 := eq_true c15
                                have c15b1 : decide (1 + t180.size ≤ 9223372036854775807) = true := decide_eq_true c15
                                try have c15b2 : (9223372036854775807 < 1 + t180.size) = False := eq_false (Nat.not_lt.2 c15)
                                by_cases c16 : x7_2.size + ((⟨#[32]⟩ : ByteArray) ++ t180).size ≤ 9223372036854775807
                                · rw [if_pos c16] at H
                                  have c16b0 := eq_true c16
                                  have c16b1 : decide (x7_2.size + ((⟨#[32]⟩ : ByteArray) ++ t180).size ≤ 9223372036854775807) = true := decide_eq_true c16
                                  try have c16b2 : (9223372036854775807 < x7_2.size + ((⟨#[32]⟩ : ByteArray) ++ t180).size) = False := eq_false (Nat.not_lt.2 c16)
                                  have H' := Aside0.mk H
                                  clear H
                                  have p178 : 0 ≤ (x25_2 : Int) := of_decide_eq_true (by first | (with_reducible assumption) | assumption)
                                  have q178 : x25_2 < (((rd_T31 l0 x12_1).f2).length : Int) := of_decide_eq_true (by first | (with_reducible assumption) | assumption)
                                  obtain ⟨ad178, e178, hx178_0⟩ := Kd.at_string HR176_2.out x25_2 p178 q178
                                  cases e178
                                  replace hx178_0 := (HB.out.cell (World.block_lt_of_cell? w _ hx178_0)).trans hx178_0
                                  replace p178 := eq_true p178
                                  replace q178 := eq_true q178
                                  have hcz17_0 : wr.cell? ⟨gb177, 0, none⟩ = some (.string ((rd_T31 l0 x12_1).f0)) := (blk_cell BK177.out 0).trans rfl
                                  have hcz17_1 : wr.cell? ⟨gb177, 1, none⟩ = some (.slice A176_1 ((rd_T31 l0 x12_1).f1).length c176_1) := (blk_cell BK177.out 1).trans rfl
                                  have hcz17_2 : wr.cell? ⟨gb177, 2, none⟩ = some (.slice (some ad178) ((rd_T31 l0 x12_1).f2).length c176_2) := (blk_cell BK177.out 2).trans rfl
                                  have hfz17_0 := blk_frozen BK177.out 0
                                  have hfz17_1 := blk_frozen BK177.out 1
                                  have hfz17_2 := blk_frozen BK177.out 2
                                  have p179 : 0 ≤ (x25_2 : Int) := of_decide_eq_true (by first | (with_reducible assumption) | assumption)
                                  have q179 : x25_2 < (((rd_T31 l0 x12_1).f1).length : Int) := of_decide_eq_true (by first | (with_reducible assumption) | assumption)
                                  obtain ⟨ad179, e179, hx179_0⟩ := Kd.at_int HR176_1.out x25_2 p179 q179
                                  cases e179
                                  replace hx179_0 := (HB.out.cell (World.block_lt_of_cell? w _ hx179_0)).trans hx179_0
                                  replace p179 := eq_true p179
                                  replace q179 := eq_true q179
                                  go_wp2_with (first | (go_at_call 28; (with_reducible refine (spec_SignedText.calls k2 (wrap64 (rd ((rd_T31 l0 x12_1).f1) x25_2)) t180 _ A14.out).mono ?_); rintro e w18 ⟨rfl, hb⟩; have n0_ := Aside0.mk (blk_below (g := gb177) (o := .cells #[.string ((rd_T31 l0 x12_1).f0), .slice (some ad179) ((rd_T31 l0 x12_1).f1).length c176_1, .slice (some ad178) ((rd_T31 l0 x12_1).f2).length c176_2] 31 (0, 0)) (by (with_reducible repeat (first | refine blk_drewN ?_ _ | refine blk_drew ?_ | refine blk_alloc ?_ _)); exact BK177.out) hb); have n1_ := Aside0.mk (below_step (by repeat (first | (with_reducible first | exact HB.out | apply below_alloc | apply pw_below_drewN | apply below_drew1 | refine below_set ?_ GE177.out) | exact HB.out)) hb); clear BK177; clear HB; have BK177 := n0_; have HB := n1_; clear n0_ n1_; (try clear hb); (try clear hb2); (try clear hk); (try clear hi)))
                                  repeat (go_quiet (first | (go_at_call 28; (with_reducible refine (spec_SignedText.calls k2 (wrap64 (rd ((rd_T31 l0 x12_1).f1) x25_2)) t180 _ A14.out).mono ?_); rintro e w18 ⟨rfl, hb⟩; have n0_ := Aside0.mk (blk_below (g := gb177) (o := .cells #[.string ((rd_T31 l0 x12_1).f0), .slice (some ad179) ((rd_T31 l0 x12_1).f1).length c176_1, .slice (some ad178) ((rd_T31 l0 x12_1).f2).length c176_2] 31 (0, 0)) (by (with_reducible repeat (first | refine blk_drewN ?_ _ | refine blk_drew ?_ | refine blk_alloc ?_ _)); exact BK177.out) hb); have n1_ := Aside0.mk (below_step (by repeat (first | (with_reducible first | exact HB.out | apply below_alloc | apply pw_below_drewN | apply below_drew1 | refine below_set ?_ GE177.out) | exact HB.out)) hb); clear BK177; clear HB; have BK177 := n0_; have HB := n1_; clear n0_ n1_; (try clear hb); (try clear hb2); (try clear hk); (try clear hi))); try go_wp2_with (first | (go_at_call 28; (with_reducible refine (spec_SignedText.calls k2 (wrap64 (rd ((rd_T31 l0 x12_1).f1) x25_2)) t180 _ A14.out).mono ?_); rintro e w18 ⟨rfl, hb⟩; have n0_ := Aside0.mk (blk_below (g := gb177) (o := .cells #[.string ((rd_T31 l0 x12_1).f0), .slice (some ad179) ((rd_T31 l0 x12_1).f1).length c176_1, .slice (some ad178) ((rd_T31 l0 x12_1).f2).length c176_2] 31 (0, 0)) (by (with_reducible repeat (first | refine blk_drewN ?_ _ | refine blk_drew ?_ | refine blk_alloc ?_ _)); exact BK177.out) hb); have n1_ := Aside0.mk (below_step (by repeat (first | (with_reducible first | exact HB.out | apply below_alloc | apply pw_below_drewN | apply below_drew1 | refine below_set ?_ GE177.out) | exact HB.out)) hb); clear BK177; clear HB; have BK177 := n0_; have HB := n1_; clear n0_ n1_; (try clear hb); (try clear hb2); (try clear hk); (try clear hi))))
                                  go_roundg k2
                                  case measure => have := HK1.out; have := HK2.out; omega
                                  case rel => exact ⟨(x6_2 ++ ((⟨#[32]⟩ : ByteArray) ++ (rdOf ByteArray.empty ((rd_T31 l0 x12_1).f2) x25_2))), (x7_2 ++ ((⟨#[32]⟩ : ByteArray) ++ t180)), (wrap64 (x25_2 + 1)), (by first | rfl | (simp; done) | (simp [*]; done)), (by first | rfl | (simp; done) | (simp [*]; done)), (by first | rfl | (simp; done) | (simp [*]; done)), H', ⟨by have := HK1.out; have := HK2.out; omega⟩, ⟨by (with_reducible repeat (first | refine blk_drewN ?_ _ | refine blk_drew ?_ | refine blk_alloc ?_ _)); exact BK177.out⟩, ⟨by repeat (first | (with_reducible first | exact HB.out | apply below_alloc | apply pw_below_drewN | apply below_drew1 | refine below_set ?_ GE177.out) | exact HB.out)⟩⟩
                                · rw [if_neg c16] at H
                                  exact absurd H (by simp)
                              · rw [if_neg c15] at H
                                exact absurd H (by simp)
                            · rw [if_neg c13] at H
                              exact absurd H (by simp)
                          · rw [if_neg c12] at H
                            exact absurd H (by simp)
                        · rw [if_neg c11] at H
                          exact absurd H (by simp)
                      · rw [if_neg c10] at H
                        exact absurd H (by simp)
                    · rw [if_neg c9] at H
                      exact absurd H (by simp)
                  · rw [if_neg c8] at H
                    have c8b0 : decide (x25_2 < (((rd_T31 l0 x12_1).f2).length : Int)) = false := decide_eq_false c8
                    clear c8
                    by_cases c19 : x6_2.size + 1 ≤ 9223372036854775807
                    · rw [if_pos c19] at H
                      have c19b0 := eq_true c19
                      have c19b1 : decide (x6_2.size + 1 ≤ 9223372036854775807) = true := decide_eq_true c19
                      try have c19b2 : (9223372036854775807 < x6_2.size + 1) = False := eq_false (Nat.not_lt.2 c19)
                      by_cases c20 : (x6_2 ++ (⟨#[10]⟩ : ByteArray)).size + x7_2.size ≤ 9223372036854775807
                      · rw [if_pos c20] at H
                        have c20b0 := eq_true c20
                        have c20b1 : decide ((x6_2 ++ (⟨#[10]⟩ : ByteArray)).size + x7_2.size ≤ 9223372036854775807) = true := decide_eq_true c20
                        try have c20b2 : (9223372036854775807 < (x6_2 ++ (⟨#[10]⟩ : ByteArray)).size + x7_2.size) = False := eq_false (Nat.not_lt.2 c20)
                        by_cases c21 : ((x6_2 ++ (⟨#[10]⟩ : ByteArray)) ++ x7_2).size + 1 ≤ 9223372036854775807
                        · rw [if_pos c21] at H
                          have c21b0 := eq_true c21
                          have c21b1 : decide (((x6_2 ++ (⟨#[10]⟩ : ByteArray)) ++ x7_2).size + 1 ≤ 9223372036854775807) = true := decide_eq_true c21
                          try have c21b2 : (9223372036854775807 < ((x6_2 ++ (⟨#[10]⟩ : ByteArray)) ++ x7_2).size + 1) = False := eq_false (Nat.not_lt.2 c21)
                          by_cases c22 : x3_1.size + (((x6_2 ++ (⟨#[10]⟩ : ByteArray)) ++ x7_2) ++ (⟨#[10]⟩ : ByteArray)).size ≤ 9223372036854775807
                          · rw [if_pos c22] at H
                            have c22b0 := eq_true c22
                            have c22b1 : decide (x3_1.size + (((x6_2 ++ (⟨#[10]⟩ : ByteArray)) ++ x7_2) ++ (⟨#[10]⟩ : ByteArray)).size ≤ 9223372036854775807) = true := decide_eq_true c22
                            try have c22b2 : (9223372036854775807 < x3_1.size + (((x6_2 ++ (⟨#[10]⟩ : ByteArray)) ++ x7_2) ++ (⟨#[10]⟩ : ByteArray)).size) = False := eq_false (Nat.not_lt.2 c22)
                            have d20 : x6_2.size + 1 + x7_2.size ≤ 9223372036854775807 := by have hq := of_eq_true c20b0; simp only [ByteArray.size_append] at hq; exact hq
                            have d20b0 := eq_true d20
                            have d20b1 := eq_false (Nat.not_lt.2 d20)
                            clear d20
                            have d21 : x6_2.size + 1 + x7_2.size + 1 ≤ 9223372036854775807 := by have hq := of_eq_true c21b0; simp only [ByteArray.size_append] at hq; exact hq
                            have d21b0 := eq_true d21
                            have d21b1 := eq_false (Nat.not_lt.2 d21)
                            clear d21
                            have d22 : x3_1.size + (x6_2.size + 1 + x7_2.size + 1) ≤ 9223372036854775807 := by have hq := of_eq_true c22b0; simp only [ByteArray.size_append] at hq; exact hq
                            have d22b0 := eq_true d22
                            have d22b1 := eq_false (Nat.not_lt.2 d22)
                            clear d22
                            have H' := Aside0.mk H
                            clear H
                            go_wp2
                            repeat (go_quiet (fail); try go_wp2)
                            go_roundg k2
                            case measure => have := HK1.out; have := HK2.out; omega
                            case rel => exact ⟨(x3_1 ++ (((x6_2 ++ (⟨#[10]⟩ : ByteArray)) ++ x7_2) ++ (⟨#[10]⟩ : ByteArray))), (wrap64 (x12_1 + 1)), (by first | rfl | (simp; done) | (simp [*]; done)), (by first | rfl | (simp; done) | (simp [*]; done)), H', ⟨by have := HK1.out; have := HK2.out; omega⟩, ⟨by repeat (first | (with_reducible first | exact HB.out | apply below_alloc | apply pw_below_drewN | apply below_drew1 | refine below_set ?_ GE177.out) | exact HB.out)⟩⟩
                          · rw [if_neg c22] at H
                            exact absurd H (by simp)
                        · rw [if_neg c21] at H
                          exact absurd H (by simp)
                      · rw [if_neg c20] at H
                        exact absurd H (by simp)
                    · rw [if_neg c19] at H
                      exact absurd H (by simp)
            · rw [if_neg c5] at H
              exact absurd H (by simp)
          · rw [if_neg c4] at H
            exact absurd H (by simp)
        · rw [if_neg c3] at H
          exact absurd H (by simp)
      · rw [if_neg c2] at H
        have c2b0 : decide (x12_1 < (l0.length : Int)) = false := decide_eq_false c2
        clear c2
        obtain rfl := Option.some.inj H
        go_wp2
        repeat (go_quiet (fail); try go_wp2)
        go_ret
        exact ⟨by first | rfl | (simp [errW_none, errW_some] <;> rfl) | (simp [*, errW_none, errW_some] <;> rfl), by repeat (first | (with_reducible first | exact HB.out | apply below_alloc | apply pw_below_drewN | apply below_drew1) | exact HB.out)⟩

end Go.Proofs.YtabfglmpnkgecaaGreatDoor.Q
