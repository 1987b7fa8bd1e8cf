-- Written by a program of this claim's session (after the kit's print, with a kind for float64). Lean checks it.
import Derived.Test.YtabfglmpnkgecaaGreatDoorM01
set_option linter.unusedVariables false
set_option linter.unusedSimpArgs false
namespace Go.Proofs.YtabfglmpnkgecaaGreatDoor.Q
open Go.RowKit Go.Proofs.YtabfglmpnkgecaaGreatDoorW.PrintWords Go.Proofs.YtabfglmpnkgecaaGreatDoorW.PrintLast Go.Proofs.YtabfglmpnkgecaaGreatDoorW.PrintMore
attribute [local go_sem] run_store_float max2_int min2_int max_two min_two max_three min_three max_four min_four   -- for this text's walks alone
set_option linter.unusedVariables false
set_option linter.unusedSimpArgs false

/-! ### laws_toNode: function 12 -/
mutual
def laws_toNode.l0 : Nat → List (S43) → Int → Int → ByteArray → Int → Bool → Int → Int → Nat → ByteArray → List (S39) → Option (ByteArray × Int × Bool × Int × Int × Nat × ByteArray × (List (S39)))
  | 0, _, _, _, _, _, _, _, _, _, _, _ => none
  | k + 1, x22, x23, x24, x281000, x281001, x281002, x281003, x281004, x281005, x281006, x281007 => if x24 < x23 then (if 0 ≤ x24 then (if x24 < (x22.length : Int) then ((laws_toNode.f k ((rd_T43 x22 x24).f0) ((rd_T43 x22 x24).f1) ((rd_T43 x22 x24).f2) ((rd_T43 x22 x24).f3) ((rd_T43 x22 x24).f4) ((rd_T43 x22 x24).f5) ((rd_T43 x22 x24).f6) ((rd_T43 x22 x24).f7)).bind fun bt283 => (if x281007.length < 1466015503701 then (laws_toNode.l0 k x22 x23 (wrap64 (x24 + 1)) x281000 x281001 x281002 x281003 x281004 x281005 x281006 (x281007 ++ [(⟨bt283.1, bt283.2.1, bt283.2.2.1, bt283.2.2.2.1, bt283.2.2.2.2.1, bt283.2.2.2.2.2.1, bt283.2.2.2.2.2.2.1, bt283.2.2.2.2.2.2.2⟩ : S39)])) else (none))) else (none)) else (none)) else (some (x281000, x281001, x281002, x281003, x281004, x281005, x281006, x281007))
def laws_toNode.f : Nat → ByteArray → Int → Bool → Int → Int → Nat → ByteArray → List (S43) → Option (ByteArray × Int × Bool × Int × Int × Nat × ByteArray × (List (S39)))
  | 0, _, _, _, _, _, _, _, _ => none
  | k + 1, a0_0, a0_1, a0_2, a0_3, a0_4, a0_5, a0_6, l0_7 => laws_toNode.l0 k l0_7 (l0_7.length : Int) 0 a0_0 a0_1 a0_2 a0_3 a0_4 a0_5 a0_6 ([] : List (S39))
end
theorem laws_toNode.mono_l : ∀ k, (∀ y0 y1 y2 y3 y4 y5 y6 y7, LeO (laws_toNode.f k y0 y1 y2 y3 y4 y5 y6 y7) (laws_toNode.f (k + 1) y0 y1 y2 y3 y4 y5 y6 y7)) ∧ (∀ y0 y1 y2 y3 y4 y5 y6 y7 y8 y9 y10, LeO (laws_toNode.l0 k y0 y1 y2 y3 y4 y5 y6 y7 y8 y9 y10) (laws_toNode.l0 (k + 1) y0 y1 y2 y3 y4 y5 y6 y7 y8 y9 y10))
  | 0 => ⟨fun _ _ _ _ _ _ _ _ r h => by simp [laws_toNode.f] at h, fun _ _ _ _ _ _ _ _ _ _ _ r h => by simp [laws_toNode.l0] at h⟩
  | k + 1 => by
    obtain ⟨ih0, ih1⟩ := laws_toNode.mono_l k
    refine ⟨?_, ?_⟩
    · intro y0 y1 y2 y3 y4 y5 y6 y7
      unfold laws_toNode.f
      repeat' first
      | (with_reducible exact ih0 _ _ _ _ _ _ _ _)
      | (with_reducible exact ih1 _ _ _ _ _ _ _ _ _ _ _)
      | (with_reducible exact LeO.refl _)
      | (with_reducible exact LeO.none _)
      | (with_reducible refine LeO.ite ?_ ?_)
      | (with_reducible refine LeO.bind ?_ (fun _ => ?_))
      | exact ih0 _ _ _ _ _ _ _ _
      | exact ih1 _ _ _ _ _ _ _ _ _ _ _
      | exact LeO.none _
      | refine LeO.ite ?_ ?_
      | refine LeO.bind ?_ (fun _ => ?_)
    · intro y0 y1 y2 y3 y4 y5 y6 y7 y8 y9 y10
      unfold laws_toNode.l0
      repeat' first
      | (with_reducible exact ih0 _ _ _ _ _ _ _ _)
      | (with_reducible exact ih1 _ _ _ _ _ _ _ _ _ _ _)
      | (with_reducible exact LeO.refl _)
      | (with_reducible exact LeO.none _)
      | (with_reducible refine LeO.ite ?_ ?_)
      | (with_reducible refine LeO.bind ?_ (fun _ => ?_))
      | exact ih0 _ _ _ _ _ _ _ _
      | exact ih1 _ _ _ _ _ _ _ _ _ _ _
      | exact LeO.none _
      | refine LeO.ite ?_ ?_
      | refine LeO.bind ?_ (fun _ => ?_)
theorem laws_toNode.mono : ∀ a0 a1 a2 a3 a4 a5 a6 a7 k, LeO (laws_toNode.f k a0 a1 a2 a3 a4 a5 a6 a7) (laws_toNode.f (k + 1) a0 a1 a2 a3 a4 a5 a6 a7) := by
  intro a0 a1 a2 a3 a4 a5 a6 a7 k
  obtain ⟨ih0, ih1⟩ := laws_toNode.mono_l k
  exact ih0 a0 a1 a2 a3 a4 a5 a6 a7
def laws_toNode.T5 : Bool × List (List Nat × List Nat) := (true, [([], []), ([0], [0]), ([], []), ([2], [2]), ([3], [3]), ([1, 4, 3], [1, 4]), ([0, 1, 2, 3, 4, 5], []), ([6, 5, 5, 0, 1, 2, 3, 4, 5], [5, 6])])
def laws_toNode.B5 : List Nat := [0, 1, 0, 4, 12, 31, 63, 127]
theorem laws_toNode.tab5 : rtab .any (opsOf Tryz.f12 5) = laws_toNode.T5 := by kernel_rfl
theorem laws_toNode.bits5 : waitsOk laws_toNode.T5.2 laws_toNode.B5 = true := by kernel_rfl
set_option maxHeartbeats 8000000 in
set_option maxRecDepth 100000 in
theorem laws_toNode.calls (k : Nat) : ∀ (a0_0 : ByteArray) (a0_1 : Int) (a0_2 : Bool) (a0_3 : Int) (a0_4 : Int) (a0_5 : Nat) (a0_6 : ByteArray) (A0_7 : Option Addr) (c0_7 : Nat) (l0_7 : List (S43)) (r1 : ByteArray) (r2 : Int) (r3 : Bool) (r4 : Int) (r5 : Int) (r6 : Nat) (r7 : ByteArray) (r8 : List (S39)) (w : World) (hr0_7 : Kd.C k43 w A0_7 l0_7.length l0_7) (hc0_7 : l0_7.length ≤ c0_7) (h : laws_toNode.f k a0_0 a0_1 a0_2 a0_3 a0_4 a0_5 a0_6 l0_7 = some (r1, r2, r3, r4, r5, r6, r7, r8)),
    Calls Tryz.prog 12 #[.agg #[.string a0_0, .int .i64 a0_1, .bool a0_2, .int .i64 a0_3, .int .u64 a0_4, .float .f64 a0_5, .string a0_6, .slice A0_7 l0_7.length c0_7]] w fun e w' => ∃ v7_ : Value, e = .returned (.agg #[.string r1, .int .i64 r2, .bool r3, .int .i64 r4, .int .u64 r5, .float .f64 r6, .string r7, v7_]) ∧ Kd.R k39 39 w' w.heap.size (fun _ => True) v7_ r8 ∧ Below w.heap.size w w' := by
  induction k using Nat.strongRecOn with
  | _ k ih =>
  intro a0_0 a0_1 a0_2 a0_3 a0_4 a0_5 a0_6 A0_7 c0_7 l0_7 r1 r2 r3 r4 r5 r6 r7 r8 w hr0_7 hc0_7 h
  cases k with
  | zero => exact absurd h (by simp [laws_toNode.f])
  | succ k =>
  simp only [laws_toNode.f] at h
  have hu43 := Tryz.underlying43
  have hu39 := Tryz.underlying39
  have HR0_7 := Aside0.mk hr0_7
  have HC0_7 := Aside0.mk hc0_7
  clear hr0_7 hc0_7
  have HB := Aside0.mk (Below.refl w.heap.size w)
  have H : (laws_toNode.l0 k l0_7 (l0_7.length : Int) 0 a0_0 a0_1 a0_2 a0_3 a0_4 a0_5 a0_6 ([] : List (S39))) = some (r1, r2, r3, r4, r5, r6, r7, r8) := h
  clear h
  have H' := Aside0.mk H
  clear H
  go_enter Tryz.func12, Tryz.ntmps12
  go_wp2_with (first | ((with_reducible refine gate_dst (N := 1) rfl ?_); refine box_event ?hg (N := 1) ?hd (cs := #[.string a0_0, .int .i64 a0_1, .bool a0_2, .int .i64 a0_3, .int .u64 a0_4, .float .f64 a0_5, .string a0_6, .slice A0_7 l0_7.length c0_7]) (t := 43) ?hr ?_; (case hd => rfl); (case hg => rfl); (case hr => first | (go_simp; done) | (go_simp; rfl)); intro gb278 hg w2 hbox hb; have n0_ := Aside0.mk (below_step (by repeat (first | (with_reducible first | exact HB.out | apply below_alloc | apply pw_below_drewN | apply below_drew1) | exact HB.out)) hb); have n1_ := Aside0.mk (hbox); have n2_ := Aside0.mk ((by rw [hg]; exact (below_size (by repeat (first | (with_reducible first | exact HB.out | apply below_alloc | apply pw_below_drewN | apply below_drew1) | exact HB.out))) : w.heap.size ≤ gb278)); have n3_ := Aside0.mk ((by rw [hg]; exact (below_size (by repeat (first | (with_reducible first | exact HB.out | apply below_alloc | apply pw_below_drewN | apply below_drew1) | exact HB.out))) : w.heap.size ≤ gb278)); clear HB; have HB := n0_; have BK278 := n1_; have GW278 := n2_; have GE278 := n3_; clear n0_ n1_ n2_ n3_; clear hb hbox hg) | ((with_reducible refine gate_dst (N := 2) rfl ?_); refine box_event ?hg (N := 2) ?hd (cs := #[.string (⟨#[]⟩ : ByteArray), .int .i64 0, .bool false, .int .i64 0, .int .u64 0, .float .f64 (0 : Nat), .string (⟨#[]⟩ : ByteArray), .slice none 0 0]) (t := 39) ?hr ?_; (case hd => rfl); (case hg => rfl); (case hr => first | (go_simp; done) | (go_simp; rfl)); intro gb279 hg w3 hbox hb; have n0_ := Aside0.mk (blk_below (g := gb278) (o := .cells #[.string a0_0, .int .i64 a0_1, .bool a0_2, .int .i64 a0_3, .int .u64 a0_4, .float .f64 a0_5, .string a0_6, .slice A0_7 l0_7.length c0_7] 43 (0, 0)) (by (with_reducible repeat (first | refine blk_drewN ?_ _ | refine blk_drew ?_ | refine blk_alloc ?_ _)); exact BK278.out) hb); have n1_ := Aside0.mk (below_step (by repeat (first | (with_reducible first | exact HB.out | apply below_alloc | apply pw_below_drewN | apply below_drew1 | refine below_set ?_ GE278.out) | exact HB.out)) hb); have n2_ := Aside0.mk (hbox); have n3_ := Aside0.mk ((by rw [hg]; exact (below_size (by repeat (first | (with_reducible first | exact HB.out | apply below_alloc | apply pw_below_drewN | apply below_drew1 | refine below_set ?_ GE278.out) | exact HB.out))) : w.heap.size ≤ gb279)); have n4_ := Aside0.mk ((by rw [hg]; exact (below_size (by repeat (first | (with_reducible first | exact HB.out | apply below_alloc | apply pw_below_drewN | apply below_drew1 | refine below_set ?_ GE278.out) | exact HB.out))) : w.heap.size ≤ gb279)); have n5_ := Aside0.mk ((by rw [hg]; exact Nat.ne_of_lt (blk_lt (g := gb278) (o := .cells #[.string a0_0, .int .i64 a0_1, .bool a0_2, .int .i64 a0_3, .int .u64 a0_4, .float .f64 a0_5, .string a0_6, .slice A0_7 l0_7.length c0_7] 43 (0, 0)) (by (with_reducible repeat (first | refine blk_drewN ?_ _ | refine blk_drew ?_ | refine blk_alloc ?_ _)); exact BK278.out)) : gb278 ≠ gb279)); have n6_ := Aside0.mk ((by rw [hg]; exact Nat.ne_of_gt (blk_lt (g := gb278) (o := .cells #[.string a0_0, .int .i64 a0_1, .bool a0_2, .int .i64 a0_3, .int .u64 a0_4, .float .f64 a0_5, .string a0_6, .slice A0_7 l0_7.length c0_7] 43 (0, 0)) (by (with_reducible repeat (first | refine blk_drewN ?_ _ | refine blk_drew ?_ | refine blk_alloc ?_ _)); exact BK278.out)) : gb279 ≠ gb278)); clear BK278; clear HB; have BK278 := n0_; have HB := n1_; have BK279 := n2_; have GW279 := n3_; have GE279 := n4_; have NB278_279 := n5_; have NB279_278 := n6_; clear n0_ n1_ n2_ n3_ n4_ n5_ n6_; clear hb hbox hg; have hnb4 := NB278_279.out; have hnc4 := NB279_278.out; have hcz5_0 : w3.cell? ⟨gb278, 0, none⟩ = some (.string a0_0) := (blk_cell BK278.out 0).trans rfl; have hcz5_1 : w3.cell? ⟨gb278, 1, none⟩ = some (.int .i64 a0_1) := (blk_cell BK278.out 1).trans rfl; have hcz5_2 : w3.cell? ⟨gb278, 2, none⟩ = some (.bool a0_2) := (blk_cell BK278.out 2).trans rfl; have hcz5_3 : w3.cell? ⟨gb278, 3, none⟩ = some (.int .i64 a0_3) := (blk_cell BK278.out 3).trans rfl; have hcz5_4 : w3.cell? ⟨gb278, 4, none⟩ = some (.int .u64 a0_4) := (blk_cell BK278.out 4).trans rfl; have hcz5_5 : w3.cell? ⟨gb278, 5, none⟩ = some (.float .f64 a0_5) := (blk_cell BK278.out 5).trans rfl; have hcz5_6 : w3.cell? ⟨gb278, 6, none⟩ = some (.string a0_6) := (blk_cell BK278.out 6).trans rfl; have hcz5_7 : w3.cell? ⟨gb278, 7, none⟩ = some (.slice A0_7 l0_7.length c0_7) := (blk_cell BK278.out 7).trans rfl; have hfz5_0 := blk_frozen BK278.out 0; have hfz5_1 := blk_frozen BK278.out 1; have hfz5_2 := blk_frozen BK278.out 2; have hfz5_3 := blk_frozen BK278.out 3; have hfz5_4 := blk_frozen BK278.out 4; have hfz5_5 := blk_frozen BK278.out 5; have hfz5_6 := blk_frozen BK278.out 6; have hfz5_7 := blk_frozen BK278.out 7) | ((with_reducible refine gate_dst (N := 3) rfl ?_); refine box_event ?hg (N := 3) ?hd (cs := #[.string (⟨#[]⟩ : ByteArray), .int .i64 0, .bool false, .int .i64 0, .int .u64 0, .float .f64 (0 : Nat), .string (⟨#[]⟩ : ByteArray), .slice none 0 0]) (t := 39) ?hr ?_; (case hd => rfl); (case hg => rfl); (case hr => first | (go_simp; done) | (go_simp; rfl)); intro gb280 hg w6 hbox hb; have n0_ := Aside0.mk (blk_below (g := gb278) (o := .cells #[.string a0_0, .int .i64 a0_1, .bool a0_2, .int .i64 a0_3, .int .u64 a0_4, .float .f64 a0_5, .string a0_6, .slice A0_7 l0_7.length c0_7] 43 (0, 0)) (by (with_reducible repeat (first | refine blk_drewN ?_ _ | refine blk_drew ?_ | refine blk_alloc ?_ _)); exact BK278.out) hb); have n1_ := Aside0.mk (blk_below (g := gb279) (o := .cells #[.string (⟨#[]⟩ : ByteArray), .int .i64 0, .bool false, .int .i64 0, .int .u64 0, .float .f64 (0 : Nat), .string (⟨#[]⟩ : ByteArray), .slice none 0 0] 39 (0, 0)) (by (with_reducible repeat (first | refine blk_drewN ?_ _ | refine blk_drew ?_ | refine blk_alloc ?_ _)); exact BK279.out) hb); have n2_ := Aside0.mk (below_step (by repeat (first | (with_reducible first | exact HB.out | apply below_alloc | apply pw_below_drewN | apply below_drew1 | refine below_set ?_ GE278.out | refine below_set ?_ GE279.out) | exact HB.out)) hb); have n3_ := Aside0.mk (hbox); have n4_ := Aside0.mk ((by rw [hg]; exact (below_size (by repeat (first | (with_reducible first | exact HB.out | apply below_alloc | apply pw_below_drewN | apply below_drew1 | refine below_set ?_ GE278.out | refine below_set ?_ GE279.out) | exact HB.out))) : w.heap.size ≤ gb280)); have n5_ := Aside0.mk ((by rw [hg]; exact (below_size (by repeat (first | (with_reducible first | exact HB.out | apply below_alloc | apply pw_below_drewN | apply below_drew1 | refine below_set ?_ GE278.out | refine below_set ?_ GE279.out) | exact HB.out))) : w.heap.size ≤ gb280)); have n6_ := Aside0.mk ((by rw [hg]; exact Nat.ne_of_lt (blk_lt (g := gb278) (o := .cells #[.string a0_0, .int .i64 a0_1, .bool a0_2, .int .i64 a0_3, .int .u64 a0_4, .float .f64 a0_5, .string a0_6, .slice A0_7 l0_7.length c0_7] 43 (0, 0)) (by (with_reducible repeat (first | refine blk_drewN ?_ _ | refine blk_drew ?_ | refine blk_alloc ?_ _)); exact BK278.out)) : gb278 ≠ gb280)); have n7_ := Aside0.mk ((by rw [hg]; exact Nat.ne_of_gt (blk_lt (g := gb278) (o := .cells #[.string a0_0, .int .i64 a0_1, .bool a0_2, .int .i64 a0_3, .int .u64 a0_4, .float .f64 a0_5, .string a0_6, .slice A0_7 l0_7.length c0_7] 43 (0, 0)) (by (with_reducible repeat (first | refine blk_drewN ?_ _ | refine blk_drew ?_ | refine blk_alloc ?_ _)); exact BK278.out)) : gb280 ≠ gb278)); have n8_ := Aside0.mk ((by rw [hg]; exact Nat.ne_of_lt (blk_lt (g := gb279) (o := .cells #[.string (⟨#[]⟩ : ByteArray), .int .i64 0, .bool false, .int .i64 0, .int .u64 0, .float .f64 (0 : Nat), .string (⟨#[]⟩ : ByteArray), .slice none 0 0] 39 (0, 0)) (by (with_reducible repeat (first | refine blk_drewN ?_ _ | refine blk_drew ?_ | refine blk_alloc ?_ _)); exact BK279.out)) : gb279 ≠ gb280)); have n9_ := Aside0.mk ((by rw [hg]; exact Nat.ne_of_gt (blk_lt (g := gb279) (o := .cells #[.string (⟨#[]⟩ : ByteArray), .int .i64 0, .bool false, .int .i64 0, .int .u64 0, .float .f64 (0 : Nat), .string (⟨#[]⟩ : ByteArray), .slice none 0 0] 39 (0, 0)) (by (with_reducible repeat (first | refine blk_drewN ?_ _ | refine blk_drew ?_ | refine blk_alloc ?_ _)); exact BK279.out)) : gb280 ≠ gb279)); clear BK278; clear BK279; clear HB; have BK278 := n0_; have BK279 := n1_; have HB := n2_; have BK280 := n3_; have GW280 := n4_; have GE280 := n5_; have NB278_280 := n6_; have NB280_278 := n7_; have NB279_280 := n8_; have NB280_279 := n9_; clear n0_ n1_ n2_ n3_ n4_ n5_ n6_ n7_ n8_ n9_; clear hb hbox hg; have hnb7 := NB280_278.out; have hnc7 := NB278_280.out; have hnb8 := NB280_279.out; have hnc8 := NB279_280.out; have hcz9_0 : w6.cell? ⟨gb280, 0, none⟩ = some (.string (⟨#[]⟩ : ByteArray)) := (blk_cell BK280.out 0).trans rfl; have hcz9_1 : w6.cell? ⟨gb280, 1, none⟩ = some (.int .i64 0) := (blk_cell BK280.out 1).trans rfl; have hcz9_2 : w6.cell? ⟨gb280, 2, none⟩ = some (.bool false) := (blk_cell BK280.out 2).trans rfl; have hcz9_3 : w6.cell? ⟨gb280, 3, none⟩ = some (.int .i64 0) := (blk_cell BK280.out 3).trans rfl; have hcz9_4 : w6.cell? ⟨gb280, 4, none⟩ = some (.int .u64 0) := (blk_cell BK280.out 4).trans rfl; have hcz9_5 : w6.cell? ⟨gb280, 5, none⟩ = some (.float .f64 (0 : Nat)) := (blk_cell BK280.out 5).trans rfl; have hcz9_6 : w6.cell? ⟨gb280, 6, none⟩ = some (.string (⟨#[]⟩ : ByteArray)) := (blk_cell BK280.out 6).trans rfl; have hcz9_7 : w6.cell? ⟨gb280, 7, none⟩ = some (.slice none 0 0) := (blk_cell BK280.out 7).trans rfl; have hfz9_0 := blk_frozen BK280.out 0; have hfz9_1 := blk_frozen BK280.out 1; have hfz9_2 := blk_frozen BK280.out 2; have hfz9_3 := blk_frozen BK280.out 3; have hfz9_4 := blk_frozen BK280.out 4; have hfz9_5 := blk_frozen BK280.out 5; have hfz9_6 := blk_frozen BK280.out 6; have hfz9_7 := blk_frozen BK280.out 7; have hcz10_0 : w6.cell? ⟨gb278, 0, none⟩ = some (.string a0_0) := (blk_cell BK278.out 0).trans rfl; have hcz10_1 : w6.cell? ⟨gb278, 1, none⟩ = some (.int .i64 a0_1) := (blk_cell BK278.out 1).trans rfl; have hcz10_2 : w6.cell? ⟨gb278, 2, none⟩ = some (.bool a0_2) := (blk_cell BK278.out 2).trans rfl; have hcz10_3 : w6.cell? ⟨gb278, 3, none⟩ = some (.int .i64 a0_3) := (blk_cell BK278.out 3).trans rfl; have hcz10_4 : w6.cell? ⟨gb278, 4, none⟩ = some (.int .u64 a0_4) := (blk_cell BK278.out 4).trans rfl; have hcz10_5 : w6.cell? ⟨gb278, 5, none⟩ = some (.float .f64 a0_5) := (blk_cell BK278.out 5).trans rfl; have hcz10_6 : w6.cell? ⟨gb278, 6, none⟩ = some (.string a0_6) := (blk_cell BK278.out 6).trans rfl; have hcz10_7 : w6.cell? ⟨gb278, 7, none⟩ = some (.slice A0_7 l0_7.length c0_7) := (blk_cell BK278.out 7).trans rfl; have hfz10_0 := blk_frozen BK278.out 0; have hfz10_1 := blk_frozen BK278.out 1; have hfz10_2 := blk_frozen BK278.out 2; have hfz10_3 := blk_frozen BK278.out 3; have hfz10_4 := blk_frozen BK278.out 4; have hfz10_5 := blk_frozen BK278.out 5; have hfz10_6 := blk_frozen BK278.out 6; have hfz10_7 := blk_frozen BK278.out 7))
  go_loopg [24] k (fun kq v24 w' => ∃ (x24_1 : Int) (x281007_1 : List (S39)) (u281007 : Value), v24 = .int .i64 x24_1 ∧ Aside0 (laws_toNode.l0 kq l0_7 (l0_7.length : Int) x24_1 a0_0 a0_1 a0_2 a0_3 a0_4 a0_5 a0_6 x281007_1 = some (r1, r2, r3, r4, r5, r6, r7, r8)) ∧ Aside0 (kq ≤ k) ∧ Aside0 (Kd.R k39 39 w' w.heap.size (fun k_ => k_ ≠ gb279 ∧ k_ ≠ gb280) u281007 x281007_1) ∧ Aside0 (w'.heap[gb278]? = some (.cells #[.string a0_0, .int .i64 a0_1, .bool a0_2, .int .i64 a0_3, .int .u64 a0_4, .float .f64 a0_5, .string a0_6, (.slice A0_7 l0_7.length c0_7)] 43 (0, 0))) ∧ Aside0 (w'.heap[gb279]? = some (.cells #[.string (⟨#[]⟩ : ByteArray), .int .i64 0, .bool false, .int .i64 0, .int .u64 0, .float .f64 (0 : Nat), .string (⟨#[]⟩ : ByteArray), (.slice none 0 0)] 39 (0, 0))) ∧ Aside0 (w'.heap[gb280]? = some (.cells #[.string a0_0, .int .i64 a0_1, .bool a0_2, .int .i64 a0_3, .int .u64 a0_4, .float .f64 a0_5, .string a0_6, u281007] 39 (0, 0))) ∧ Aside0 (Below w.heap.size w w'))
  case atStart => exact ⟨(0), (([] : List (S39))), (.slice none 0 0), (by first | rfl | (simp; done) | (simp [*]; done)), H', ⟨Nat.le_refl _⟩, ⟨by first | exact Kd.R_nil _ _ _ _ _ | exact Kd.N_nil _ _ _ _ _ | exact Kd.V_nil _ _ _ _ _ | exact Kd.Q_nil _ _ _ _ _ | exact Kd.S_nil _ _ _ _ _⟩, ⟨by (with_reducible repeat (first | refine blk_drewN ?_ _ | refine blk_drew ?_ | refine blk_alloc ?_ _)); refine blk_far ?_ NB278_280.out _; (with_reducible repeat (first | refine blk_drewN ?_ _ | refine blk_drew ?_ | refine blk_alloc ?_ _)); refine blk_far ?_ NB278_280.out _; (with_reducible repeat (first | refine blk_drewN ?_ _ | refine blk_drew ?_ | refine blk_alloc ?_ _)); refine blk_far ?_ NB278_280.out _; (with_reducible repeat (first | refine blk_drewN ?_ _ | refine blk_drew ?_ | refine blk_alloc ?_ _)); refine blk_far ?_ NB278_280.out _; (with_reducible repeat (first | refine blk_drewN ?_ _ | refine blk_drew ?_ | refine blk_alloc ?_ _)); refine blk_far ?_ NB278_280.out _; (with_reducible repeat (first | refine blk_drewN ?_ _ | refine blk_drew ?_ | refine blk_alloc ?_ _)); refine blk_far ?_ NB278_280.out _; (with_reducible repeat (first | refine blk_drewN ?_ _ | refine blk_drew ?_ | refine blk_alloc ?_ _)); refine blk_far ?_ NB278_280.out _; (with_reducible repeat (first | refine blk_drewN ?_ _ | refine blk_drew ?_ | refine blk_alloc ?_ _)); refine blk_far ?_ NB278_280.out _; (with_reducible repeat (first | refine blk_drewN ?_ _ | refine blk_drew ?_ | refine blk_alloc ?_ _)); exact BK278.out⟩, ⟨by (with_reducible repeat (first | refine blk_drewN ?_ _ | refine blk_drew ?_ | refine blk_alloc ?_ _)); refine blk_far ?_ NB279_280.out _; (with_reducible repeat (first | refine blk_drewN ?_ _ | refine blk_drew ?_ | refine blk_alloc ?_ _)); refine blk_far ?_ NB279_280.out _; (with_reducible repeat (first | refine blk_drewN ?_ _ | refine blk_drew ?_ | refine blk_alloc ?_ _)); refine blk_far ?_ NB279_280.out _; (with_reducible repeat (first | refine blk_drewN ?_ _ | refine blk_drew ?_ | refine blk_alloc ?_ _)); refine blk_far ?_ NB279_280.out _; (with_reducible repeat (first | refine blk_drewN ?_ _ | refine blk_drew ?_ | refine blk_alloc ?_ _)); refine blk_far ?_ NB279_280.out _; (with_reducible repeat (first | refine blk_drewN ?_ _ | refine blk_drew ?_ | refine blk_alloc ?_ _)); refine blk_far ?_ NB279_280.out _; (with_reducible repeat (first | refine blk_drewN ?_ _ | refine blk_drew ?_ | refine blk_alloc ?_ _)); refine blk_far ?_ NB279_280.out _; (with_reducible repeat (first | refine blk_drewN ?_ _ | refine blk_drew ?_ | refine blk_alloc ?_ _)); refine blk_far ?_ NB279_280.out _; (with_reducible repeat (first | refine blk_drewN ?_ _ | refine blk_drew ?_ | refine blk_alloc ?_ _)); exact BK279.out⟩, ⟨by (with_reducible repeat (first | refine blk_drewN ?_ _ | refine blk_drew ?_ | refine blk_alloc ?_ _)); refine blk_put (cs := #[.string a0_0, .int .i64 a0_1, .bool a0_2, .int .i64 a0_3, .int .u64 a0_4, .float .f64 a0_5, .string a0_6, .slice none 0 0]) ?_ 7 _ rfl; (with_reducible repeat (first | refine blk_drewN ?_ _ | refine blk_drew ?_ | refine blk_alloc ?_ _)); refine blk_put (cs := #[.string a0_0, .int .i64 a0_1, .bool a0_2, .int .i64 a0_3, .int .u64 a0_4, .float .f64 a0_5, .string (⟨#[]⟩ : ByteArray), .slice none 0 0]) ?_ 6 _ rfl; (with_reducible repeat (first | refine blk_drewN ?_ _ | refine blk_drew ?_ | refine blk_alloc ?_ _)); refine blk_put (cs := #[.string a0_0, .int .i64 a0_1, .bool a0_2, .int .i64 a0_3, .int .u64 a0_4, .float .f64 (0 : Nat), .string (⟨#[]⟩ : ByteArray), .slice none 0 0]) ?_ 5 _ rfl; (with_reducible repeat (first | refine blk_drewN ?_ _ | refine blk_drew ?_ | refine blk_alloc ?_ _)); refine blk_put (cs := #[.string a0_0, .int .i64 a0_1, .bool a0_2, .int .i64 a0_3, .int .u64 0, .float .f64 (0 : Nat), .string (⟨#[]⟩ : ByteArray), .slice none 0 0]) ?_ 4 _ rfl; (with_reducible repeat (first | refine blk_drewN ?_ _ | refine blk_drew ?_ | refine blk_alloc ?_ _)); refine blk_put (cs := #[.string a0_0, .int .i64 a0_1, .bool a0_2, .int .i64 0, .int .u64 0, .float .f64 (0 : Nat), .string (⟨#[]⟩ : ByteArray), .slice none 0 0]) ?_ 3 _ rfl; (with_reducible repeat (first | refine blk_drewN ?_ _ | refine blk_drew ?_ | refine blk_alloc ?_ _)); refine blk_put (cs := #[.string a0_0, .int .i64 a0_1, .bool false, .int .i64 0, .int .u64 0, .float .f64 (0 : Nat), .string (⟨#[]⟩ : ByteArray), .slice none 0 0]) ?_ 2 _ rfl; (with_reducible repeat (first | refine blk_drewN ?_ _ | refine blk_drew ?_ | refine blk_alloc ?_ _)); refine blk_put (cs := #[.string a0_0, .int .i64 0, .bool false, .int .i64 0, .int .u64 0, .float .f64 (0 : Nat), .string (⟨#[]⟩ : ByteArray), .slice none 0 0]) ?_ 1 _ rfl; (with_reducible repeat (first | refine blk_drewN ?_ _ | refine blk_drew ?_ | refine blk_alloc ?_ _)); refine blk_put (cs := #[.string (⟨#[]⟩ : ByteArray), .int .i64 0, .bool false, .int .i64 0, .int .u64 0, .float .f64 (0 : Nat), .string (⟨#[]⟩ : ByteArray), .slice none 0 0]) ?_ 0 _ rfl; (with_reducible repeat (first | refine blk_drewN ?_ _ | refine blk_drew ?_ | refine blk_alloc ?_ _)); exact BK280.out⟩, ⟨by repeat (first | (with_reducible first | exact HB.out | apply below_alloc | apply pw_below_drewN | apply below_drew1 | refine below_set ?_ GE278.out | refine below_set ?_ GE279.out | refine below_set ?_ GE280.out) | exact HB.out)⟩⟩
  case round =>
    clear H'
    try clear c1
    try clear p2
    try clear c4
    try clear c7
    try clear c8
    try clear hcz10_0
    try clear hcz10_1
    try clear hcz10_2
    try clear hcz10_3
    try clear hcz10_4
    try clear hcz10_5
    try clear hcz10_6
    try clear hcz10_7
    try clear hcz5_0
    try clear hcz5_1
    try clear hcz5_2
    try clear hcz5_3
    try clear hcz5_4
    try clear hcz5_5
    try clear hcz5_6
    try clear hcz5_7
    try clear hcz9_0
    try clear hcz9_1
    try clear hcz9_2
    try clear hcz9_3
    try clear hcz9_4
    try clear hcz9_5
    try clear hcz9_6
    try clear hcz9_7
    try clear hfz10_0
    try clear hfz10_1
    try clear hfz10_2
    try clear hfz10_3
    try clear hfz10_4
    try clear hfz10_5
    try clear hfz10_6
    try clear hfz10_7
    try clear hfz5_0
    try clear hfz5_1
    try clear hfz5_2
    try clear hfz5_3
    try clear hfz5_4
    try clear hfz5_5
    try clear hfz5_6
    try clear hfz5_7
    try clear hfz9_0
    try clear hfz9_1
    try clear hfz9_2
    try clear hfz9_3
    try clear hfz9_4
    try clear hfz9_5
    try clear hfz9_6
    try clear hfz9_7
    obtain ⟨x24_1, x281007_1, u281007, rfl, HA, HK1, HO_281007, BK278, BK279, BK280, HB⟩ := hrel
    cases gk with
    | zero => exact absurd HA.out (by simp [laws_toNode.l0])
    | succ k1 =>
      have H := HA.out
      clear HA
      simp only [laws_toNode.l0] at H
      by_cases c11 : x24_1 < (l0_7.length : Int)
      · rw [if_pos c11] at H
        have c11b0 : decide (x24_1 < (l0_7.length : Int)) = true := decide_eq_true c11
        clear c11
        by_cases c12 : 0 ≤ x24_1
        · rw [if_pos c12] at H
          have c12b0 : decide (0 ≤ x24_1) = true := decide_eq_true c12
          clear c12
          by_cases c13 : x24_1 < (l0_7.length : Int)
          · rw [if_pos c13] at H
            have c13b0 : decide (x24_1 < (l0_7.length : Int)) = true := decide_eq_true c13
            clear c13
            replace H := Option.bind_eq_some_iff.mp H
            obtain ⟨⟨t283, t284, t285, t286, t287, t288, t289, t290⟩, A140, H⟩ := H
            replace H : (if x281007_1.length < 1466015503701 then (laws_toNode.l0 k1 l0_7 (l0_7.length : Int) (wrap64 (x24_1 + 1)) a0_0 a0_1 a0_2 a0_3 a0_4 a0_5 a0_6 (x281007_1 ++ [(⟨t283, t284, t285, t286, t287, t288, t289, t290⟩ : S39)])) else (none)) = some (r1, r2, r3, r4, r5, r6, r7, r8) := H
            have A14 := Aside0.mk A140
            clear A140
            by_cases c15 : x281007_1.length < 1466015503701
            · rw [if_pos c15] at H
              have LMc15 := Aside0.mk c15
              clear c15
              obtain ⟨y293, hy293⟩ : ∃ y_ : List (S39), y_ = (x281007_1 ++ [(⟨t283, t284, t285, t286, t287, t288, t289, t290⟩ : S39)]) := ⟨_, rfl⟩
              replace H : (laws_toNode.l0 k1 l0_7 (l0_7.length : Int) (wrap64 (x24_1 + 1)) a0_0 a0_1 a0_2 a0_3 a0_4 a0_5 a0_6 y293) = some (r1, r2, r3, r4, r5, r6, r7, r8) := by first | (rw [hy293]; with_reducible exact H) | (have H2_ := (Option.bind_some _ _).symm.trans H; rw [hy293]; with_reducible exact H2_) | (have H2_ := (Option.bind_some _ _).symm.trans H; with_reducible exact H2_) | with_reducible exact H | (rw [hy293]; exact H) | exact H
              have Ny293 := Aside0.mk hy293
              clear hy293
              have H' := Aside0.mk H
              clear H
              have p281 : 0 ≤ (x24_1 : Int) := of_decide_eq_true (by first | (with_reducible assumption) | assumption)
              have q281 : x24_1 < (l0_7.length : Int) := of_decide_eq_true (by first | (with_reducible assumption) | assumption)
              obtain ⟨ad281, A281_7, c281_7, e281, hx281_0, hx281_1, hx281_2, hx281_3, hx281_4, hx281_5, hx281_6, hx281_7, hl281_7, hi281_7⟩ := at_T43 HR0_7.out x24_1 p281 q281
              cases e281
              replace hx281_0 := (HB.out.cell (World.block_lt_of_cell? w _ hx281_0)).trans hx281_0
              replace hx281_1 := (HB.out.cell (World.block_lt_of_cell? w _ hx281_1)).trans hx281_1
              replace hx281_2 := (HB.out.cell (World.block_lt_of_cell? w _ hx281_2)).trans hx281_2
              replace hx281_3 := (HB.out.cell (World.block_lt_of_cell? w _ hx281_3)).trans hx281_3
              replace hx281_4 := (HB.out.cell (World.block_lt_of_cell? w _ hx281_4)).trans hx281_4
              replace hx281_5 := (HB.out.cell (World.block_lt_of_cell? w _ hx281_5)).trans hx281_5
              replace hx281_6 := (HB.out.cell (World.block_lt_of_cell? w _ hx281_6)).trans hx281_6
              replace hx281_7 := (HB.out.cell (World.block_lt_of_cell? w _ hx281_7)).trans hx281_7
              have HR281_7 := Aside0.mk hi281_7
              have HC281_7 := Aside0.mk hl281_7
              clear hi281_7 hl281_7
              replace p281 := eq_true p281
              replace q281 := eq_true q281
              try go_wp2_with (first | ((with_reducible refine gate_dst (N := 5) rfl ?_); refine box_event ?hg (N := 5) ?hd (cs := #[.string (⟨#[]⟩ : ByteArray), .int .i64 0, .bool false, .int .i64 0, .int .u64 0, .float .f64 (0 : Nat), .string (⟨#[]⟩ : ByteArray), .slice none 0 0]) (t := 43) ?hr ?_; (case hd => rfl); (case hg => rfl); (case hr => first | (go_simp; done) | (go_simp; rfl)); intro gb282 hg w16 hbox hb; have n0_ := Aside0.mk (Kd.R_below (by (with_reducible repeat (first | apply Kd.R_alloc | apply Kd.R_drewN | apply Kd.R_drew)); exact HO_281007.out) hb); have n1_ := Aside0.mk (blk_below (g := gb278) (o := .cells #[.string a0_0, .int .i64 a0_1, .bool a0_2, .int .i64 a0_3, .int .u64 a0_4, .float .f64 a0_5, .string a0_6, .slice (some ad281) l0_7.length c0_7] 43 (0, 0)) (by (with_reducible repeat (first | refine blk_drewN ?_ _ | refine blk_drew ?_ | refine blk_alloc ?_ _)); exact BK278.out) hb); have n2_ := Aside0.mk (blk_below (g := gb279) (o := .cells #[.string (⟨#[]⟩ : ByteArray), .int .i64 0, .bool false, .int .i64 0, .int .u64 0, .float .f64 (0 : Nat), .string (⟨#[]⟩ : ByteArray), .slice none 0 0] 39 (0, 0)) (by (with_reducible repeat (first | refine blk_drewN ?_ _ | refine blk_drew ?_ | refine blk_alloc ?_ _)); exact BK279.out) hb); have n3_ := Aside0.mk (blk_below (g := gb280) (o := .cells #[.string a0_0, .int .i64 a0_1, .bool a0_2, .int .i64 a0_3, .int .u64 a0_4, .float .f64 a0_5, .string a0_6, u281007] 39 (0, 0)) (by (with_reducible repeat (first | refine blk_drewN ?_ _ | refine blk_drew ?_ | refine blk_alloc ?_ _)); exact BK280.out) hb); have n4_ := Aside0.mk (below_step (by repeat (first | (with_reducible first | exact HB.out | apply below_alloc | apply pw_below_drewN | apply below_drew1 | refine below_set ?_ GE278.out | refine below_set ?_ GE279.out | refine below_set ?_ GE280.out) | exact HB.out)) hb); have n5_ := Aside0.mk (hbox); have n6_ := Aside0.mk ((by rw [hg]; exact (below_size (by repeat (first | (with_reducible first | exact HB.out | apply below_alloc | apply pw_below_drewN | apply below_drew1 | refine below_set ?_ GE278.out | refine below_set ?_ GE279.out | refine below_set ?_ GE280.out) | exact HB.out))) : w.heap.size ≤ gb282)); have n7_ := Aside0.mk ((by rw [hg]; exact (below_size (by repeat (first | (with_reducible first | exact HB.out | apply below_alloc | apply pw_below_drewN | apply below_drew1 | refine below_set ?_ GE278.out | refine below_set ?_ GE279.out | refine below_set ?_ GE280.out) | exact HB.out))) : w.heap.size ≤ gb282)); have n8_ := Aside0.mk ((by rw [hg]; exact Nat.ne_of_lt (blk_lt (g := gb278) (o := .cells #[.string a0_0, .int .i64 a0_1, .bool a0_2, .int .i64 a0_3, .int .u64 a0_4, .float .f64 a0_5, .string a0_6, .slice (some ad281) l0_7.length c0_7] 43 (0, 0)) (by (with_reducible repeat (first | refine blk_drewN ?_ _ | refine blk_drew ?_ | refine blk_alloc ?_ _)); exact BK278.out)) : gb278 ≠ gb282)); have n9_ := Aside0.mk ((by rw [hg]; exact Nat.ne_of_gt (blk_lt (g := gb278) (o := .cells #[.string a0_0, .int .i64 a0_1, .bool a0_2, .int .i64 a0_3, .int .u64 a0_4, .float .f64 a0_5, .string a0_6, .slice (some ad281) l0_7.length c0_7] 43 (0, 0)) (by (with_reducible repeat (first | refine blk_drewN ?_ _ | refine blk_drew ?_ | refine blk_alloc ?_ _)); exact BK278.out)) : gb282 ≠ gb278)); have n10_ := Aside0.mk ((by rw [hg]; exact Nat.ne_of_lt (blk_lt (g := gb279) (o := .cells #[.string (⟨#[]⟩ : ByteArray), .int .i64 0, .bool false, .int .i64 0, .int .u64 0, .float .f64 (0 : Nat), .string (⟨#[]⟩ : ByteArray), .slice none 0 0] 39 (0, 0)) (by (with_reducible repeat (first | refine blk_drewN ?_ _ | refine blk_drew ?_ | refine blk_alloc ?_ _)); exact BK279.out)) : gb279 ≠ gb282)); have n11_ := Aside0.mk ((by rw [hg]; exact Nat.ne_of_gt (blk_lt (g := gb279) (o := .cells #[.string (⟨#[]⟩ : ByteArray), .int .i64 0, .bool false, .int .i64 0, .int .u64 0, .float .f64 (0 : Nat), .string (⟨#[]⟩ : ByteArray), .slice none 0 0] 39 (0, 0)) (by (with_reducible repeat (first | refine blk_drewN ?_ _ | refine blk_drew ?_ | refine blk_alloc ?_ _)); exact BK279.out)) : gb282 ≠ gb279)); have n12_ := Aside0.mk ((by rw [hg]; exact Nat.ne_of_lt (blk_lt (g := gb280) (o := .cells #[.string a0_0, .int .i64 a0_1, .bool a0_2, .int .i64 a0_3, .int .u64 a0_4, .float .f64 a0_5, .string a0_6, u281007] 39 (0, 0)) (by (with_reducible repeat (first | refine blk_drewN ?_ _ | refine blk_drew ?_ | refine blk_alloc ?_ _)); exact BK280.out)) : gb280 ≠ gb282)); have n13_ := Aside0.mk ((by rw [hg]; exact Nat.ne_of_gt (blk_lt (g := gb280) (o := .cells #[.string a0_0, .int .i64 a0_1, .bool a0_2, .int .i64 a0_3, .int .u64 a0_4, .float .f64 a0_5, .string a0_6, u281007] 39 (0, 0)) (by (with_reducible repeat (first | refine blk_drewN ?_ _ | refine blk_drew ?_ | refine blk_alloc ?_ _)); exact BK280.out)) : gb282 ≠ gb280)); clear HO_281007; clear BK278; clear BK279; clear BK280; clear HB; have HO_281007 := n0_; have BK278 := n1_; have BK279 := n2_; have BK280 := n3_; have HB := n4_; have BK282 := n5_; have GW282 := n6_; have GE282 := n7_; have NB278_282 := n8_; have NB282_278 := n9_; have NB279_282 := n10_; have NB282_279 := n11_; have NB280_282 := n12_; have NB282_280 := n13_; clear n0_ n1_ n2_ n3_ n4_ n5_ n6_ n7_ n8_ n9_ n10_ n11_ n12_ n13_; clear hb hbox hg; have hnb17 := NB282_278.out; have hnc17 := NB278_282.out; have hnb18 := NB282_279.out; have hnc18 := NB279_282.out; have hnb19 := NB282_280.out; have hnc19 := NB280_282.out; have hcz20_0 : w16.cell? ⟨gb282, 0, none⟩ = some (.string (⟨#[]⟩ : ByteArray)) := (blk_cell BK282.out 0).trans rfl; have hcz20_1 : w16.cell? ⟨gb282, 1, none⟩ = some (.int .i64 0) := (blk_cell BK282.out 1).trans rfl; have hcz20_2 : w16.cell? ⟨gb282, 2, none⟩ = some (.bool false) := (blk_cell BK282.out 2).trans rfl; have hcz20_3 : w16.cell? ⟨gb282, 3, none⟩ = some (.int .i64 0) := (blk_cell BK282.out 3).trans rfl; have hcz20_4 : w16.cell? ⟨gb282, 4, none⟩ = some (.int .u64 0) := (blk_cell BK282.out 4).trans rfl; have hcz20_5 : w16.cell? ⟨gb282, 5, none⟩ = some (.float .f64 (0 : Nat)) := (blk_cell BK282.out 5).trans rfl; have hcz20_6 : w16.cell? ⟨gb282, 6, none⟩ = some (.string (⟨#[]⟩ : ByteArray)) := (blk_cell BK282.out 6).trans rfl; have hcz20_7 : w16.cell? ⟨gb282, 7, none⟩ = some (.slice none 0 0) := (blk_cell BK282.out 7).trans rfl; have hfz20_0 := blk_frozen BK282.out 0; have hfz20_1 := blk_frozen BK282.out 1; have hfz20_2 := blk_frozen BK282.out 2; have hfz20_3 := blk_frozen BK282.out 3; have hfz20_4 := blk_frozen BK282.out 4; have hfz20_5 := blk_frozen BK282.out 5; have hfz20_6 := blk_frozen BK282.out 6; have hfz20_7 := blk_frozen BK282.out 7))
              have n0_ : Aside0 (Kd.R k39 39 ((((((((w16.setCell ⟨gb282, 0, none⟩ (.string ((rd_T43 l0_7 x24_1).f0))).setCell ⟨gb282, 1, none⟩ (.int .i64 ((rd_T43 l0_7 x24_1).f1))).setCell ⟨gb282, 2, none⟩ (.bool ((rd_T43 l0_7 x24_1).f2))).setCell ⟨gb282, 3, none⟩ (.int .i64 ((rd_T43 l0_7 x24_1).f3))).setCell ⟨gb282, 4, none⟩ (.int .u64 ((rd_T43 l0_7 x24_1).f4))).setCell ⟨gb282, 5, none⟩ (.float .f64 ((rd_T43 l0_7 x24_1).f5))).setCell ⟨gb282, 6, none⟩ (.string ((rd_T43 l0_7 x24_1).f6))).setCell ⟨gb282, 7, none⟩ (.slice A281_7 ((rd_T43 l0_7 x24_1).f7).length c281_7)) w.heap.size (fun k_ => k_ ≠ gb279 ∧ k_ ≠ gb280) u281007 x281007_1) := ⟨by (with_reducible repeat (first | apply Kd.R_alloc | apply Kd.R_drewN | apply Kd.R_drew)); exact Kd.R_mono (Kd.R_far (p := ⟨gb282, 7, none⟩) (Kd.R_far (p := ⟨gb282, 6, none⟩) (Kd.R_far (p := ⟨gb282, 5, none⟩) (Kd.R_far (p := ⟨gb282, 4, none⟩) (Kd.R_far (p := ⟨gb282, 3, none⟩) (Kd.R_far (p := ⟨gb282, 2, none⟩) (Kd.R_far (p := ⟨gb282, 1, none⟩) (Kd.R_far (p := ⟨gb282, 0, none⟩) (Kd.R_types HO_281007.out BK282.out (by decide)) (fun _ hk => hk.2) (.string ((rd_T43 l0_7 x24_1).f0))) (fun _ hk => hk.2) (.int .i64 ((rd_T43 l0_7 x24_1).f1))) (fun _ hk => hk.2) (.bool ((rd_T43 l0_7 x24_1).f2))) (fun _ hk => hk.2) (.int .i64 ((rd_T43 l0_7 x24_1).f3))) (fun _ hk => hk.2) (.int .u64 ((rd_T43 l0_7 x24_1).f4))) (fun _ hk => hk.2) (.float .f64 ((rd_T43 l0_7 x24_1).f5))) (fun _ hk => hk.2) (.string ((rd_T43 l0_7 x24_1).f6))) (fun _ hk => hk.2) (.slice A281_7 ((rd_T43 l0_7 x24_1).f7).length c281_7)) (fun _ hk => ⟨hk.1.1, hk.1.2⟩)⟩
              have n1_ : Aside0 (((((((((w16.setCell ⟨gb282, 0, none⟩ (.string ((rd_T43 l0_7 x24_1).f0))).setCell ⟨gb282, 1, none⟩ (.int .i64 ((rd_T43 l0_7 x24_1).f1))).setCell ⟨gb282, 2, none⟩ (.bool ((rd_T43 l0_7 x24_1).f2))).setCell ⟨gb282, 3, none⟩ (.int .i64 ((rd_T43 l0_7 x24_1).f3))).setCell ⟨gb282, 4, none⟩ (.int .u64 ((rd_T43 l0_7 x24_1).f4))).setCell ⟨gb282, 5, none⟩ (.float .f64 ((rd_T43 l0_7 x24_1).f5))).setCell ⟨gb282, 6, none⟩ (.string ((rd_T43 l0_7 x24_1).f6))).setCell ⟨gb282, 7, none⟩ (.slice A281_7 ((rd_T43 l0_7 x24_1).f7).length c281_7)).heap[gb278]? = some (.cells #[.string a0_0, .int .i64 a0_1, .bool a0_2, .int .i64 a0_3, .int .u64 a0_4, .float .f64 a0_5, .string a0_6, .slice (some ad281) l0_7.length c0_7] 43 (0, 0))) := ⟨by (with_reducible repeat (first | refine blk_drewN ?_ _ | refine blk_drew ?_ | refine blk_alloc ?_ _)); refine blk_far ?_ NB278_282.out _; (with_reducible repeat (first | refine blk_drewN ?_ _ | refine blk_drew ?_ | refine blk_alloc ?_ _)); refine blk_far ?_ NB278_282.out _; (with_reducible repeat (first | refine blk_drewN ?_ _ | refine blk_drew ?_ | refine blk_alloc ?_ _)); refine blk_far ?_ NB278_282.out _; (with_reducible repeat (first | refine blk_drewN ?_ _ | refine blk_drew ?_ | refine blk_alloc ?_ _)); refine blk_far ?_ NB278_282.out _; (with_reducible repeat (first | refine blk_drewN ?_ _ | refine blk_drew ?_ | refine blk_alloc ?_ _)); refine blk_far ?_ NB278_282.out _; (with_reducible repeat (first | refine blk_drewN ?_ _ | refine blk_drew ?_ | refine blk_alloc ?_ _)); refine blk_far ?_ NB278_282.out _; (with_reducible repeat (first | refine blk_drewN ?_ _ | refine blk_drew ?_ | refine blk_alloc ?_ _)); refine blk_far ?_ NB278_282.out _; (with_reducible repeat (first | refine blk_drewN ?_ _ | refine blk_drew ?_ | refine blk_alloc ?_ _)); refine blk_far ?_ NB278_282.out _; (with_reducible repeat (first | refine blk_drewN ?_ _ | refine blk_drew ?_ | refine blk_alloc ?_ _)); exact BK278.out⟩
              have n2_ : Aside0 (((((((((w16.setCell ⟨gb282, 0, none⟩ (.string ((rd_T43 l0_7 x24_1).f0))).setCell ⟨gb282, 1, none⟩ (.int .i64 ((rd_T43 l0_7 x24_1).f1))).setCell ⟨gb282, 2, none⟩ (.bool ((rd_T43 l0_7 x24_1).f2))).setCell ⟨gb282, 3, none⟩ (.int .i64 ((rd_T43 l0_7 x24_1).f3))).setCell ⟨gb282, 4, none⟩ (.int .u64 ((rd_T43 l0_7 x24_1).f4))).setCell ⟨gb282, 5, none⟩ (.float .f64 ((rd_T43 l0_7 x24_1).f5))).setCell ⟨gb282, 6, none⟩ (.string ((rd_T43 l0_7 x24_1).f6))).setCell ⟨gb282, 7, none⟩ (.slice A281_7 ((rd_T43 l0_7 x24_1).f7).length c281_7)).heap[gb279]? = some (.cells #[.string (⟨#[]⟩ : ByteArray), .int .i64 0, .bool false, .int .i64 0, .int .u64 0, .float .f64 (0 : Nat), .string (⟨#[]⟩ : ByteArray), .slice none 0 0] 39 (0, 0))) := ⟨by (with_reducible repeat (first | refine blk_drewN ?_ _ | refine blk_drew ?_ | refine blk_alloc ?_ _)); refine blk_far ?_ NB279_282.out _; (with_reducible repeat (first | refine blk_drewN ?_ _ | refine blk_drew ?_ | refine blk_alloc ?_ _)); refine blk_far ?_ NB279_282.out _; (with_reducible repeat (first | refine blk_drewN ?_ _ | refine blk_drew ?_ | refine blk_alloc ?_ _)); refine blk_far ?_ NB279_282.out _; (with_reducible repeat (first | refine blk_drewN ?_ _ | refine blk_drew ?_ | refine blk_alloc ?_ _)); refine blk_far ?_ NB279_282.out _; (with_reducible repeat (first | refine blk_drewN ?_ _ | refine blk_drew ?_ | refine blk_alloc ?_ _)); refine blk_far ?_ NB279_282.out _; (with_reducible repeat (first | refine blk_drewN ?_ _ | refine blk_drew ?_ | refine blk_alloc ?_ _)); refine blk_far ?_ NB279_282.out _; (with_reducible repeat (first | refine blk_drewN ?_ _ | refine blk_drew ?_ | refine blk_alloc ?_ _)); refine blk_far ?_ NB279_282.out _; (with_reducible repeat (first | refine blk_drewN ?_ _ | refine blk_drew ?_ | refine blk_alloc ?_ _)); refine blk_far ?_ NB279_282.out _; (with_reducible repeat (first | refine blk_drewN ?_ _ | refine blk_drew ?_ | refine blk_alloc ?_ _)); exact BK279.out⟩
              have n3_ : Aside0 (((((((((w16.setCell ⟨gb282, 0, none⟩ (.string ((rd_T43 l0_7 x24_1).f0))).setCell ⟨gb282, 1, none⟩ (.int .i64 ((rd_T43 l0_7 x24_1).f1))).setCell ⟨gb282, 2, none⟩ (.bool ((rd_T43 l0_7 x24_1).f2))).setCell ⟨gb282, 3, none⟩ (.int .i64 ((rd_T43 l0_7 x24_1).f3))).setCell ⟨gb282, 4, none⟩ (.int .u64 ((rd_T43 l0_7 x24_1).f4))).setCell ⟨gb282, 5, none⟩ (.float .f64 ((rd_T43 l0_7 x24_1).f5))).setCell ⟨gb282, 6, none⟩ (.string ((rd_T43 l0_7 x24_1).f6))).setCell ⟨gb282, 7, none⟩ (.slice A281_7 ((rd_T43 l0_7 x24_1).f7).length c281_7)).heap[gb280]? = some (.cells #[.string a0_0, .int .i64 a0_1, .bool a0_2, .int .i64 a0_3, .int .u64 a0_4, .float .f64 a0_5, .string a0_6, u281007] 39 (0, 0))) := ⟨by (with_reducible repeat (first | refine blk_drewN ?_ _ | refine blk_drew ?_ | refine blk_alloc ?_ _)); refine blk_far ?_ NB280_282.out _; (with_reducible repeat (first | refine blk_drewN ?_ _ | refine blk_drew ?_ | refine blk_alloc ?_ _)); refine blk_far ?_ NB280_282.out _; (with_reducible repeat (first | refine blk_drewN ?_ _ | refine blk_drew ?_ | refine blk_alloc ?_ _)); refine blk_far ?_ NB280_282.out _; (with_reducible repeat (first | refine blk_drewN ?_ _ | refine blk_drew ?_ | refine blk_alloc ?_ _)); refine blk_far ?_ NB280_282.out _; (with_reducible repeat (first | refine blk_drewN ?_ _ | refine blk_drew ?_ | refine blk_alloc ?_ _)); refine blk_far ?_ NB280_282.out _; (with_reducible repeat (first | refine blk_drewN ?_ _ | refine blk_drew ?_ | refine blk_alloc ?_ _)); refine blk_far ?_ NB280_282.out _; (with_reducible repeat (first | refine blk_drewN ?_ _ | refine blk_drew ?_ | refine blk_alloc ?_ _)); refine blk_far ?_ NB280_282.out _; (with_reducible repeat (first | refine blk_drewN ?_ _ | refine blk_drew ?_ | refine blk_alloc ?_ _)); refine blk_far ?_ NB280_282.out _; (with_reducible repeat (first | refine blk_drewN ?_ _ | refine blk_drew ?_ | refine blk_alloc ?_ _)); exact BK280.out⟩
              have n4_ : Aside0 (((((((((w16.setCell ⟨gb282, 0, none⟩ (.string ((rd_T43 l0_7 x24_1).f0))).setCell ⟨gb282, 1, none⟩ (.int .i64 ((rd_T43 l0_7 x24_1).f1))).setCell ⟨gb282, 2, none⟩ (.bool ((rd_T43 l0_7 x24_1).f2))).setCell ⟨gb282, 3, none⟩ (.int .i64 ((rd_T43 l0_7 x24_1).f3))).setCell ⟨gb282, 4, none⟩ (.int .u64 ((rd_T43 l0_7 x24_1).f4))).setCell ⟨gb282, 5, none⟩ (.float .f64 ((rd_T43 l0_7 x24_1).f5))).setCell ⟨gb282, 6, none⟩ (.string ((rd_T43 l0_7 x24_1).f6))).setCell ⟨gb282, 7, none⟩ (.slice A281_7 ((rd_T43 l0_7 x24_1).f7).length c281_7)).heap[gb282]? = some (.cells #[.string ((rd_T43 l0_7 x24_1).f0), .int .i64 ((rd_T43 l0_7 x24_1).f1), .bool ((rd_T43 l0_7 x24_1).f2), .int .i64 ((rd_T43 l0_7 x24_1).f3), .int .u64 ((rd_T43 l0_7 x24_1).f4), .float .f64 ((rd_T43 l0_7 x24_1).f5), .string ((rd_T43 l0_7 x24_1).f6), .slice A281_7 ((rd_T43 l0_7 x24_1).f7).length c281_7] 43 (0, 0))) := ⟨by (with_reducible repeat (first | refine blk_drewN ?_ _ | refine blk_drew ?_ | refine blk_alloc ?_ _)); refine blk_put (cs := #[.string ((rd_T43 l0_7 x24_1).f0), .int .i64 ((rd_T43 l0_7 x24_1).f1), .bool ((rd_T43 l0_7 x24_1).f2), .int .i64 ((rd_T43 l0_7 x24_1).f3), .int .u64 ((rd_T43 l0_7 x24_1).f4), .float .f64 ((rd_T43 l0_7 x24_1).f5), .string ((rd_T43 l0_7 x24_1).f6), .slice none 0 0]) ?_ 7 _ rfl; (with_reducible repeat (first | refine blk_drewN ?_ _ | refine blk_drew ?_ | refine blk_alloc ?_ _)); refine blk_put (cs := #[.string ((rd_T43 l0_7 x24_1).f0), .int .i64 ((rd_T43 l0_7 x24_1).f1), .bool ((rd_T43 l0_7 x24_1).f2), .int .i64 ((rd_T43 l0_7 x24_1).f3), .int .u64 ((rd_T43 l0_7 x24_1).f4), .float .f64 ((rd_T43 l0_7 x24_1).f5), .string (⟨#[]⟩ : ByteArray), .slice none 0 0]) ?_ 6 _ rfl; (with_reducible repeat (first | refine blk_drewN ?_ _ | refine blk_drew ?_ | refine blk_alloc ?_ _)); refine blk_put (cs := #[.string ((rd_T43 l0_7 x24_1).f0), .int .i64 ((rd_T43 l0_7 x24_1).f1), .bool ((rd_T43 l0_7 x24_1).f2), .int .i64 ((rd_T43 l0_7 x24_1).f3), .int .u64 ((rd_T43 l0_7 x24_1).f4), .float .f64 (0 : Nat), .string (⟨#[]⟩ : ByteArray), .slice none 0 0]) ?_ 5 _ rfl; (with_reducible repeat (first | refine blk_drewN ?_ _ | refine blk_drew ?_ | refine blk_alloc ?_ _)); refine blk_put (cs := #[.string ((rd_T43 l0_7 x24_1).f0), .int .i64 ((rd_T43 l0_7 x24_1).f1), .bool ((rd_T43 l0_7 x24_1).f2), .int .i64 ((rd_T43 l0_7 x24_1).f3), .int .u64 0, .float .f64 (0 : Nat), .string (⟨#[]⟩ : ByteArray), .slice none 0 0]) ?_ 4 _ rfl; (with_reducible repeat (first | refine blk_drewN ?_ _ | refine blk_drew ?_ | refine blk_alloc ?_ _)); refine blk_put (cs := #[.string ((rd_T43 l0_7 x24_1).f0), .int .i64 ((rd_T43 l0_7 x24_1).f1), .bool ((rd_T43 l0_7 x24_1).f2), .int .i64 0, .int .u64 0, .float .f64 (0 : Nat), .string (⟨#[]⟩ : ByteArray), .slice none 0 0]) ?_ 3 _ rfl; (with_reducible repeat (first | refine blk_drewN ?_ _ | refine blk_drew ?_ | refine blk_alloc ?_ _)); refine blk_put (cs := #[.string ((rd_T43 l0_7 x24_1).f0), .int .i64 ((rd_T43 l0_7 x24_1).f1), .bool false, .int .i64 0, .int .u64 0, .float .f64 (0 : Nat), .string (⟨#[]⟩ : ByteArray), .slice none 0 0]) ?_ 2 _ rfl; (with_reducible repeat (first | refine blk_drewN ?_ _ | refine blk_drew ?_ | refine blk_alloc ?_ _)); refine blk_put (cs := #[.string ((rd_T43 l0_7 x24_1).f0), .int .i64 0, .bool false, .int .i64 0, .int .u64 0, .float .f64 (0 : Nat), .string (⟨#[]⟩ : ByteArray), .slice none 0 0]) ?_ 1 _ rfl; (with_reducible repeat (first | refine blk_drewN ?_ _ | refine blk_drew ?_ | refine blk_alloc ?_ _)); refine blk_put (cs := #[.string (⟨#[]⟩ : ByteArray), .int .i64 0, .bool false, .int .i64 0, .int .u64 0, .float .f64 (0 : Nat), .string (⟨#[]⟩ : ByteArray), .slice none 0 0]) ?_ 0 _ rfl; (with_reducible repeat (first | refine blk_drewN ?_ _ | refine blk_drew ?_ | refine blk_alloc ?_ _)); exact BK282.out⟩
              have n5_ : Aside0 (Below w.heap.size w ((((((((w16.setCell ⟨gb282, 0, none⟩ (.string ((rd_T43 l0_7 x24_1).f0))).setCell ⟨gb282, 1, none⟩ (.int .i64 ((rd_T43 l0_7 x24_1).f1))).setCell ⟨gb282, 2, none⟩ (.bool ((rd_T43 l0_7 x24_1).f2))).setCell ⟨gb282, 3, none⟩ (.int .i64 ((rd_T43 l0_7 x24_1).f3))).setCell ⟨gb282, 4, none⟩ (.int .u64 ((rd_T43 l0_7 x24_1).f4))).setCell ⟨gb282, 5, none⟩ (.float .f64 ((rd_T43 l0_7 x24_1).f5))).setCell ⟨gb282, 6, none⟩ (.string ((rd_T43 l0_7 x24_1).f6))).setCell ⟨gb282, 7, none⟩ (.slice A281_7 ((rd_T43 l0_7 x24_1).f7).length c281_7))) := ⟨by repeat (first | (with_reducible first | exact HB.out | apply below_alloc | apply pw_below_drewN | apply below_drew1 | refine below_set ?_ GE278.out | refine below_set ?_ GE279.out | refine below_set ?_ GE280.out | refine below_set ?_ GE282.out) | exact HB.out)⟩
              (try clear HO_281007)
              (try clear BK278)
              (try clear BK279)
              (try clear BK280)
              (try clear BK282)
              (try clear HB)
              generalize ((((((((w16.setCell ⟨gb282, 0, none⟩ (.string ((rd_T43 l0_7 x24_1).f0))).setCell ⟨gb282, 1, none⟩ (.int .i64 ((rd_T43 l0_7 x24_1).f1))).setCell ⟨gb282, 2, none⟩ (.bool ((rd_T43 l0_7 x24_1).f2))).setCell ⟨gb282, 3, none⟩ (.int .i64 ((rd_T43 l0_7 x24_1).f3))).setCell ⟨gb282, 4, none⟩ (.int .u64 ((rd_T43 l0_7 x24_1).f4))).setCell ⟨gb282, 5, none⟩ (.float .f64 ((rd_T43 l0_7 x24_1).f5))).setCell ⟨gb282, 6, none⟩ (.string ((rd_T43 l0_7 x24_1).f6))).setCell ⟨gb282, 7, none⟩ (.slice A281_7 ((rd_T43 l0_7 x24_1).f7).length c281_7)) = w21 at n0_ n1_ n2_ n3_ n4_ n5_ ⊢
              have HO_281007 := n0_
              have BK278 := n1_
              have BK279 := n2_
              have BK280 := n3_
              have BK282 := n4_
              have HB := n5_
              clear n0_ n1_ n2_ n3_ n4_ n5_
              have n0_ := Aside0.mk (Kd.R_drew HO_281007.out)
              have n1_ := Aside0.mk (blk_drew BK278.out)
              have n2_ := Aside0.mk (blk_drew BK279.out)
              have n3_ := Aside0.mk (blk_drew BK280.out)
              have n4_ := Aside0.mk (blk_drew BK282.out)
              have n5_ := Aside0.mk (below_drew1 HB.out)
              clear HO_281007
              clear BK278
              clear BK279
              clear BK280
              clear BK282
              clear HB
              have HO_281007 := n0_
              have BK278 := n1_
              have BK279 := n2_
              have BK280 := n3_
              have BK282 := n4_
              have HB := n5_
              clear n0_ n1_ n2_ n3_ n4_ n5_
              refine start_ (n := 8) (S := fun w' => w'.cell? ⟨gb280, 0, none⟩ = some (.string a0_0) ∧ w'.cell? ⟨gb280, 1, none⟩ = some (.int .i64 a0_1) ∧ w'.cell? ⟨gb280, 2, none⟩ = some (.bool a0_2) ∧ w'.cell? ⟨gb280, 3, none⟩ = some (.int .i64 a0_3) ∧ w'.cell? ⟨gb280, 4, none⟩ = some (.int .u64 a0_4) ∧ w'.cell? ⟨gb280, 5, none⟩ = some (.float .f64 a0_5) ∧ w'.cell? ⟨gb280, 6, none⟩ = some (.string a0_6) ∧ w'.cell? ⟨gb280, 7, none⟩ = some (u281007) ∧ w'.cell? ⟨gb282, 0, none⟩ = some (.string ((rd_T43 l0_7 x24_1).f0)) ∧ w'.cell? ⟨gb282, 1, none⟩ = some (.int .i64 ((rd_T43 l0_7 x24_1).f1)) ∧ w'.cell? ⟨gb282, 2, none⟩ = some (.bool ((rd_T43 l0_7 x24_1).f2)) ∧ w'.cell? ⟨gb282, 3, none⟩ = some (.int .i64 ((rd_T43 l0_7 x24_1).f3)) ∧ w'.cell? ⟨gb282, 4, none⟩ = some (.int .u64 ((rd_T43 l0_7 x24_1).f4)) ∧ w'.cell? ⟨gb282, 5, none⟩ = some (.float .f64 ((rd_T43 l0_7 x24_1).f5)) ∧ w'.cell? ⟨gb282, 6, none⟩ = some (.string ((rd_T43 l0_7 x24_1).f6)) ∧ w'.cell? ⟨gb282, 7, none⟩ = some (.slice A281_7 ((rd_T43 l0_7 x24_1).f7).length c281_7)) (ds := [7]) #[false, false, false, false, false, false, false, false] (by kernel_rfl) rfl rfl ⟨(blk_cell BK280.out 0).trans rfl, (blk_cell BK280.out 1).trans rfl, (blk_cell BK280.out 2).trans rfl, (blk_cell BK280.out 3).trans rfl, (blk_cell BK280.out 4).trans rfl, (blk_cell BK280.out 5).trans rfl, (blk_cell BK280.out 6).trans rfl, (blk_cell BK280.out 7).trans rfl, (blk_cell BK282.out 0).trans rfl, (blk_cell BK282.out 1).trans rfl, (blk_cell BK282.out 2).trans rfl, (blk_cell BK282.out 3).trans rfl, (blk_cell BK282.out 4).trans rfl, (blk_cell BK282.out 5).trans rfl, (blk_cell BK282.out 6).trans rfl, (blk_cell BK282.out 7).trans rfl⟩ (fun hHeld => ?_); refine with_tabW laws_toNode.tab5 laws_toNode.bits5 (fun HT_ HW_ => ?_)
              generalize w21.drew = w22 at HO_281007 BK278 BK279 BK280 BK282 HB hHeld ⊢
              refine pure_ (i := 0) (N := some 28) (v := ?_) (a' := ?_) #[true, false, false, false, false, false, false, false] rfl rfl (any_of HT_.out (by kernel_rfl)) (fun _ _ _ h => h) (Or.inl ⟨by rfl, ?_⟩) ?_ ?_
              rotate_left
              · intro w'
                go_simp
                with_reducible rfl
              rotate_left
              · simp only [Act.put, List.setIfInBounds_toArray, List.set_cons_zero, List.set_cons_succ, i64_w, i32_w]
                rfl
              refine take_ (i := 1) (N := some 29) (v := ?_) (a' := ?_) #[true, true, false, false, false, false, false, false] rfl rfl (take_ofW HT_.out HW_.out (by kernel_rfl)) (fun _ _ _ h => h) (Or.inl ⟨by rfl, ?_⟩) hHeld ?_ ?_
              rotate_left
              · rintro w' ⟨s0, s1, s2, s3, s4, s5, s6, s7, s8, s9, s10, s11, s12, s13, s14, s15⟩
                go_simp
                with_reducible rfl
              rotate_left
              · simp only [Act.put, List.setIfInBounds_toArray, List.set_cons_zero, List.set_cons_succ, i64_w, i32_w]
                rfl
              refine take_ (i := 2) (N := some 30) (v := ?_) (a' := ?_) #[true, true, true, false, false, false, false, false] rfl rfl (take_ofW HT_.out HW_.out (by kernel_rfl)) (fun _ _ _ h => h) (Or.inl ⟨by rfl, ?_⟩) hHeld ?_ ?_
              rotate_left
              · rintro w' ⟨s0, s1, s2, s3, s4, s5, s6, s7, s8, s9, s10, s11, s12, s13, s14, s15⟩
                go_simp
                with_reducible rfl
              rotate_left
              · simp only [Act.put, List.setIfInBounds_toArray, List.set_cons_zero, List.set_cons_succ, i64_w, i32_w]
                rfl
              refine one_ (i := 3) (N := some 31) #[true, true, true, true, false, false, false, false] rfl rfl (one_of HT_.out (by kernel_rfl)) (by decide) (fun K hK => ?_)
              refine goes_ Tryz.func12 (by kernel_rfl) rfl #[.agg #[.string ((rd_T43 l0_7 x24_1).f0), .int .i64 ((rd_T43 l0_7 x24_1).f1), .bool ((rd_T43 l0_7 x24_1).f2), .int .i64 ((rd_T43 l0_7 x24_1).f3), .int .u64 ((rd_T43 l0_7 x24_1).f4), .float .f64 ((rd_T43 l0_7 x24_1).f5), .string ((rd_T43 l0_7 x24_1).f6), .slice A281_7 ((rd_T43 l0_7 x24_1).f7).length c281_7]] (by rfl) rfl rfl (by (try simp only [List.map_toArray, List.map_cons, List.map_nil]); first | done | rfl | (simp only [List.length_drop, List.length_take]; rfl)) ?_
              with_reducible refine (ih k1 (by have := HK1.out; omega) ((rd_T43 l0_7 x24_1).f0) ((rd_T43 l0_7 x24_1).f1) ((rd_T43 l0_7 x24_1).f2) ((rd_T43 l0_7 x24_1).f3) ((rd_T43 l0_7 x24_1).f4) ((rd_T43 l0_7 x24_1).f5) ((rd_T43 l0_7 x24_1).f6) _ _ ((rd_T43 l0_7 x24_1).f7) t283 t284 t285 t286 t287 t288 t289 t290 _ ?side1 ?side2 A14.out).mono ?_
              (case side1 => repeat (first | exact (Kd.C_below HR281_7.out HB.out) | (with_reducible refine Kd.C_alloc ?_ _) | (with_reducible refine Kd.C_drewN ?_ _) | (with_reducible refine Kd.C_drew ?_)))
              (case side2 => exact HC281_7.out)
              rintro e w23 ⟨v291, rfl, ho0, hb⟩
              refine ⟨_, rfl, ?_⟩
              have n0_ := Aside0.mk (Kd.R_elder' (by (with_reducible repeat (first | apply Kd.R_alloc | apply Kd.R_drewN | apply Kd.R_drew)); exact HO_281007.out) (Kd.R_base ho0) hb)
              have n1_ := Aside0.mk (Kd.R_lower (Kd.R_newB (Kd.R_newB (Kd.R_new' ho0 (Kd.R_lt (by (with_reducible repeat (first | apply Kd.R_alloc | apply Kd.R_drewN | apply Kd.R_drew)); exact HO_281007.out))) (g := gb279) (o := .cells #[.string (⟨#[]⟩ : ByteArray), .int .i64 0, .bool false, .int .i64 0, .int .u64 0, .float .f64 (0 : Nat), .string (⟨#[]⟩ : ByteArray), .slice none 0 0] 39 (0, 0)) (by (with_reducible repeat (first | refine blk_drewN ?_ _ | refine blk_drew ?_ | refine blk_alloc ?_ _)); exact BK279.out)) (g := gb280) (o := .cells #[.string a0_0, .int .i64 a0_1, .bool a0_2, .int .i64 a0_3, .int .u64 a0_4, .float .f64 a0_5, .string a0_6, u281007] 39 (0, 0)) (by (with_reducible repeat (first | refine blk_drewN ?_ _ | refine blk_drew ?_ | refine blk_alloc ?_ _)); exact BK280.out)) (below_size (by repeat (first | (with_reducible first | exact HB.out | apply below_alloc | apply pw_below_drewN | apply below_drew1 | refine below_set ?_ GE278.out | refine below_set ?_ GE279.out | refine below_set ?_ GE280.out | refine below_set ?_ GE282.out) | exact HB.out))))
              have n2_ := Aside0.mk (blk_below (g := gb278) (o := .cells #[.string a0_0, .int .i64 a0_1, .bool a0_2, .int .i64 a0_3, .int .u64 a0_4, .float .f64 a0_5, .string a0_6, .slice (some ad281) l0_7.length c0_7] 43 (0, 0)) (by (with_reducible repeat (first | refine blk_drewN ?_ _ | refine blk_drew ?_ | refine blk_alloc ?_ _)); exact BK278.out) hb)
              have n3_ := Aside0.mk (blk_below (g := gb279) (o := .cells #[.string (⟨#[]⟩ : ByteArray), .int .i64 0, .bool false, .int .i64 0, .int .u64 0, .float .f64 (0 : Nat), .string (⟨#[]⟩ : ByteArray), .slice none 0 0] 39 (0, 0)) (by (with_reducible repeat (first | refine blk_drewN ?_ _ | refine blk_drew ?_ | refine blk_alloc ?_ _)); exact BK279.out) hb)
              have n4_ := Aside0.mk (blk_below (g := gb280) (o := .cells #[.string a0_0, .int .i64 a0_1, .bool a0_2, .int .i64 a0_3, .int .u64 a0_4, .float .f64 a0_5, .string a0_6, u281007] 39 (0, 0)) (by (with_reducible repeat (first | refine blk_drewN ?_ _ | refine blk_drew ?_ | refine blk_alloc ?_ _)); exact BK280.out) hb)
              have n5_ := Aside0.mk (blk_below (g := gb282) (o := .cells #[.string ((rd_T43 l0_7 x24_1).f0), .int .i64 ((rd_T43 l0_7 x24_1).f1), .bool ((rd_T43 l0_7 x24_1).f2), .int .i64 ((rd_T43 l0_7 x24_1).f3), .int .u64 ((rd_T43 l0_7 x24_1).f4), .float .f64 ((rd_T43 l0_7 x24_1).f5), .string ((rd_T43 l0_7 x24_1).f6), .slice A281_7 ((rd_T43 l0_7 x24_1).f7).length c281_7] 43 (0, 0)) (by (with_reducible repeat (first | refine blk_drewN ?_ _ | refine blk_drew ?_ | refine blk_alloc ?_ _)); exact BK282.out) hb)
              have n6_ := Aside0.mk (below_step (by repeat (first | (with_reducible first | exact HB.out | apply below_alloc | apply pw_below_drewN | apply below_drew1 | refine below_set ?_ GE278.out | refine below_set ?_ GE279.out | refine below_set ?_ GE280.out | refine below_set ?_ GE282.out) | exact HB.out)) hb)
              clear HO_281007
              clear BK278
              clear BK279
              clear BK280
              clear BK282
              clear HB
              have HO_281007 := n0_
              have HO292 := n1_
              have BK278 := n2_
              have BK279 := n3_
              have BK280 := n4_
              have BK282 := n5_
              have HB := n6_
              clear n0_ n1_ n2_ n3_ n4_ n5_ n6_
              (try clear hb)
              (try clear hb2)
              (try clear hk)
              (try clear hi)
              (try clear ho0)
              obtain ⟨Ao25, co25, eo25⟩ := Kd.R_slice HO292.out
              (first | subst eo25 | (injection eo25 with f1_ f2_ f3_; have f4_ := f1_.symm; have f5_ := f3_.symm; clear f1_ f2_ f3_; subst f4_; subst f5_))
              refine hK.out _ _ ⟨(blk_cell BK280.out 0).trans rfl, (blk_cell BK280.out 1).trans rfl, (blk_cell BK280.out 2).trans rfl, (blk_cell BK280.out 3).trans rfl, (blk_cell BK280.out 4).trans rfl, (blk_cell BK280.out 5).trans rfl, (blk_cell BK280.out 6).trans rfl, (blk_cell BK280.out 7).trans rfl, (blk_cell BK282.out 0).trans rfl, (blk_cell BK282.out 1).trans rfl, (blk_cell BK282.out 2).trans rfl, (blk_cell BK282.out 3).trans rfl, (blk_cell BK282.out 4).trans rfl, (blk_cell BK282.out 5).trans rfl, (blk_cell BK282.out 6).trans rfl, (blk_cell BK282.out 7).trans rfl⟩ (fun hHeld => ?_)
              clear hK K
              refine norm_ (a' := ?_) ?_ ?_
              rotate_left
              · show Act.put _ (some 31) _ = _
                simp only [Act.put, List.setIfInBounds_toArray, List.set_cons_zero, List.set_cons_succ, i64_w, i32_w]
                rfl
              refine one_ (i := 4) (N := some 32) #[true, true, true, true, true, false, false, false] rfl rfl (one_of HT_.out (by kernel_rfl)) (by decide) (fun K hK => ?_)
              refine value_ (w1 := ?_) (v := ?_) (by rfl) rfl ?_ ?_
              rotate_left 2
              · go_simp
                constructor
                · rfl
                · rfl
              refine hK.out _ _ ⟨(blk_cell (blk_alloc BK280.out _) 0).trans rfl, (blk_cell (blk_alloc BK280.out _) 1).trans rfl, (blk_cell (blk_alloc BK280.out _) 2).trans rfl, (blk_cell (blk_alloc BK280.out _) 3).trans rfl, (blk_cell (blk_alloc BK280.out _) 4).trans rfl, (blk_cell (blk_alloc BK280.out _) 5).trans rfl, (blk_cell (blk_alloc BK280.out _) 6).trans rfl, (blk_cell (blk_alloc BK280.out _) 7).trans rfl, (blk_cell (blk_alloc BK282.out _) 0).trans rfl, (blk_cell (blk_alloc BK282.out _) 1).trans rfl, (blk_cell (blk_alloc BK282.out _) 2).trans rfl, (blk_cell (blk_alloc BK282.out _) 3).trans rfl, (blk_cell (blk_alloc BK282.out _) 4).trans rfl, (blk_cell (blk_alloc BK282.out _) 5).trans rfl, (blk_cell (blk_alloc BK282.out _) 6).trans rfl, (blk_cell (blk_alloc BK282.out _) 7).trans rfl⟩ (fun hHeld => ?_)
              clear hK K
              refine norm_ (a' := ?_) ?_ ?_
              rotate_left
              · show Act.put _ (some 32) _ = _
                simp only [Act.put, List.setIfInBounds_toArray, List.set_cons_zero, List.set_cons_succ, i64_w, i32_w]
                rfl
              refine one_ (i := 5) (N := some 33) #[true, true, true, true, true, true, false, false] rfl rfl (one_of HT_.out (by kernel_rfl)) (by decide) (fun K hK => ?_)
              refine Kd.R_append_step k39 (w0 := w) w.heap.size (by rfl) (.tmp 29) (.tmp 32) 37 39 (.agg #[(.string ⟨#[]⟩), (.int .i64 0), (.bool false), (.int .i64 0), (.int .u64 0), (.float .f64 0), (.string ⟨#[]⟩), (.slice none 0 0)]) 96 rfl Tryz.underlying37 info39 rfl (by decide) (by omega) u281007 x281007_1 (⟨t283, t284, t285, t286, t287, t288, t289, t290⟩ : S39) [.string t283, .int .i64 t284, .bool t285, .int .i64 t286, .int .u64 t287, .float .f64 t288, .string t289, .slice Ao25 t290.length co25] (fun k_ => k_ ≠ gb279 ∧ k_ ≠ gb280) (fun k_ => ((fun k_ => k_ ≠ gb279 ∧ k_ ≠ gb280)) k_ ∧ some k_ ≠ (u281007 : Value).ownBlock) rfl rfl ?aP (fun _ hk => hk) ?aF ?aO ?aB ?aS ?aL ?_
              (case aP => exact k39_mkM _ _ _ (⟨t283, t284, t285, t286, t287, t288, t289, t290⟩ : S39) (Kd.R_mono (HO292.out) (fun k_ hk => ⟨⟨hk.1.2, hk.2⟩, hk.1.1.2⟩)))
              (case aB => exact (by repeat (first | (with_reducible first | exact HB.out | apply below_alloc | apply pw_below_drewN | apply below_drew1 | refine below_set ?_ GE278.out | refine below_set ?_ GE279.out | refine below_set ?_ GE280.out | refine below_set ?_ GE282.out) | exact HB.out)))
              (case aF => exact (fun k_ hk => ⟨Kd.freshB (g := gb279) (o := .cells #[.string (⟨#[]⟩ : ByteArray), .int .i64 0, .bool false, .int .i64 0, .int .u64 0, .float .f64 (0 : Nat), .string (⟨#[]⟩ : ByteArray), .slice none 0 0] 39 (0, 0)) (by (with_reducible repeat (first | refine blk_drewN ?_ _ | refine blk_drew ?_ | refine blk_alloc ?_ _)); exact BK279.out) k_ hk, Kd.freshB (g := gb280) (o := .cells #[.string a0_0, .int .i64 a0_1, .bool a0_2, .int .i64 a0_3, .int .u64 a0_4, .float .f64 a0_5, .string a0_6, u281007] 39 (0, 0)) (by (with_reducible repeat (first | refine blk_drewN ?_ _ | refine blk_drew ?_ | refine blk_alloc ?_ _)); exact BK280.out) k_ hk⟩))
              (case aO => exact (by (with_reducible repeat (first | apply Kd.R_alloc | apply Kd.R_drewN | apply Kd.R_drew)); exact Kd.R_mono HO_281007.out (fun _ hk => ⟨hk.1.1, hk.1.2⟩)))
              (case aS => exact (below_size (by repeat (first | (with_reducible first | exact HB.out | apply below_alloc | apply pw_below_drewN | apply below_drew1 | refine below_set ?_ GE278.out | refine below_set ?_ GE279.out | refine below_set ?_ GE280.out | refine below_set ?_ GE282.out) | exact HB.out))))
              (case aL => have := LMc15.out; omega)
              intro v294 w24 ho hb hg hat
              rw [← Ny293.out] at ho
              have n0_ := Aside0.mk (blk_grown (g := gb278) (o := .cells #[.string a0_0, .int .i64 a0_1, .bool a0_2, .int .i64 a0_3, .int .u64 a0_4, .float .f64 a0_5, .string a0_6, .slice (some ad281) l0_7.length c0_7] 43 (0, 0)) (by (with_reducible repeat (first | refine blk_drewN ?_ _ | refine blk_drew ?_ | refine blk_alloc ?_ _)); exact BK278.out) hg (Kd.R_ne HO_281007.out BK278.out (by decide)))
              have n1_ := Aside0.mk (blk_grown (g := gb279) (o := .cells #[.string (⟨#[]⟩ : ByteArray), .int .i64 0, .bool false, .int .i64 0, .int .u64 0, .float .f64 (0 : Nat), .string (⟨#[]⟩ : ByteArray), .slice none 0 0] 39 (0, 0)) (by (with_reducible repeat (first | refine blk_drewN ?_ _ | refine blk_drew ?_ | refine blk_alloc ?_ _)); exact BK279.out) hg (Kd.R_away HO_281007.out (fun _ hk => hk.1.1)))
              have n2_ := Aside0.mk (blk_grown (g := gb280) (o := .cells #[.string a0_0, .int .i64 a0_1, .bool a0_2, .int .i64 a0_3, .int .u64 a0_4, .float .f64 a0_5, .string a0_6, u281007] 39 (0, 0)) (by (with_reducible repeat (first | refine blk_drewN ?_ _ | refine blk_drew ?_ | refine blk_alloc ?_ _)); exact BK280.out) hg (Kd.R_away HO_281007.out (fun _ hk => hk.1.2)))
              have n3_ := Aside0.mk (blk_grown (g := gb282) (o := .cells #[.string ((rd_T43 l0_7 x24_1).f0), .int .i64 ((rd_T43 l0_7 x24_1).f1), .bool ((rd_T43 l0_7 x24_1).f2), .int .i64 ((rd_T43 l0_7 x24_1).f3), .int .u64 ((rd_T43 l0_7 x24_1).f4), .float .f64 ((rd_T43 l0_7 x24_1).f5), .string ((rd_T43 l0_7 x24_1).f6), .slice A281_7 ((rd_T43 l0_7 x24_1).f7).length c281_7] 43 (0, 0)) (by (with_reducible repeat (first | refine blk_drewN ?_ _ | refine blk_drew ?_ | refine blk_alloc ?_ _)); exact BK282.out) hg (Kd.R_ne HO_281007.out BK282.out (by decide)))
              have n4_ := Aside0.mk (hb)
              have n5_ := Aside0.mk (ho)
              clear BK278
              clear BK279
              clear BK280
              clear BK282
              clear HB
              clear HO_281007
              clear HO292
              have BK278 := n0_
              have BK279 := n1_
              have BK280 := n2_
              have BK282 := n3_
              have HB := n4_
              have HO295 := n5_
              clear n0_ n1_ n2_ n3_ n4_ n5_
              clear ho hb hg hat
              obtain ⟨Ao26, co26, eo26⟩ := Kd.R_slice HO295.out
              (first | subst eo26 | (injection eo26 with f1_ f2_ f3_; have f4_ := f1_.symm; have f5_ := f3_.symm; clear f1_ f2_ f3_; subst f4_; subst f5_))
              refine hK.out _ _ ⟨(blk_cell BK280.out 0).trans rfl, (blk_cell BK280.out 1).trans rfl, (blk_cell BK280.out 2).trans rfl, (blk_cell BK280.out 3).trans rfl, (blk_cell BK280.out 4).trans rfl, (blk_cell BK280.out 5).trans rfl, (blk_cell BK280.out 6).trans rfl, (blk_cell BK280.out 7).trans rfl, (blk_cell BK282.out 0).trans rfl, (blk_cell BK282.out 1).trans rfl, (blk_cell BK282.out 2).trans rfl, (blk_cell BK282.out 3).trans rfl, (blk_cell BK282.out 4).trans rfl, (blk_cell BK282.out 5).trans rfl, (blk_cell BK282.out 6).trans rfl, (blk_cell BK282.out 7).trans rfl⟩ (fun hHeld => ?_)
              clear hK K
              refine norm_ (a' := ?_) ?_ ?_
              rotate_left
              · show Act.put _ (some 33) _ = _
                simp only [Act.put, List.setIfInBounds_toArray, List.set_cons_zero, List.set_cons_succ, i64_w, i32_w]
                rfl
              refine pure_ (i := 6) (N := some 34) (v := ?_) (a' := ?_) #[true, true, true, true, true, true, true, false] rfl rfl (any_of HT_.out (by kernel_rfl)) (fun _ _ _ h => h) (Or.inl ⟨by rfl, ?_⟩) ?_ ?_
              rotate_left
              · intro w'
                go_simp
                with_reducible rfl
              rotate_left
              · simp only [Act.put, List.setIfInBounds_toArray, List.set_cons_zero, List.set_cons_succ, i64_w, i32_w]
                rfl
              refine last_ (i := 7) (N := none) #[true, true, true, true, true, true, true, true] rfl rfl (one_of HT_.out (by kernel_rfl)) (by decide) (fun K hK => ?_)
              have hs27 : w24.cell? ⟨gb280, 7, none⟩ = some (u281007) := (blk_cell BK280.out 7).trans rfl
              have hfs27 := blk_frozen BK280.out 7
              have hns27_0 := NB278_280.out
              have hns27_1 := NB279_280.out
              have hns27_3 := NB282_280.out
              have hms27_0 := NB280_278.out
              have hms27_1 := NB280_279.out
              have hms27_3 := NB280_282.out
              refine skip_ (w1 := ?_) (by rfl) rfl ?_ ?_
              rotate_left
              · go_simp
                rfl
              refine hK.out _ _ ?_
              clear hK K
              refine done_ (done_of HT_.out (by kernel_rfl)) ?_
              try go_wp2
              go_roundg k1
              case measure => have := HK1.out; omega
              case rel => exact ⟨(wrap64 (x24_1 + 1)), (y293), (.slice Ao26 y293.length co26), (by first | rfl | (simp; done) | (simp [*]; done)), H', ⟨by have := HK1.out; omega⟩, ⟨by (with_reducible repeat (first | apply Kd.R_alloc | apply Kd.R_drewN | apply Kd.R_drew)); exact Kd.R_mono (Kd.R_far (p := ⟨gb280, 7, none⟩) (Kd.R_mono HO295.out (fun k_ hk => (⟨hk, hk.2⟩ : _ ∧ k_ ≠ gb280))) (fun _ hk => hk.2) (.slice Ao26 y293.length co26)) (fun _ hk => ⟨hk.1.1, hk.1.2⟩)⟩, ⟨by (with_reducible repeat (first | refine blk_drewN ?_ _ | refine blk_drew ?_ | refine blk_alloc ?_ _)); refine blk_far ?_ NB278_280.out _; (with_reducible repeat (first | refine blk_drewN ?_ _ | refine blk_drew ?_ | refine blk_alloc ?_ _)); exact BK278.out⟩, ⟨by (with_reducible repeat (first | refine blk_drewN ?_ _ | refine blk_drew ?_ | refine blk_alloc ?_ _)); refine blk_far ?_ NB279_280.out _; (with_reducible repeat (first | refine blk_drewN ?_ _ | refine blk_drew ?_ | refine blk_alloc ?_ _)); exact BK279.out⟩, ⟨by (with_reducible repeat (first | refine blk_drewN ?_ _ | refine blk_drew ?_ | refine blk_alloc ?_ _)); refine blk_put (cs := #[.string a0_0, .int .i64 a0_1, .bool a0_2, .int .i64 a0_3, .int .u64 a0_4, .float .f64 a0_5, .string a0_6, u281007]) ?_ 7 _ rfl; (with_reducible repeat (first | refine blk_drewN ?_ _ | refine blk_drew ?_ | refine blk_alloc ?_ _)); exact BK280.out⟩, ⟨by repeat (first | (with_reducible first | exact HB.out | apply below_alloc | apply pw_below_drewN | apply below_drew1 | refine below_set ?_ GE278.out | refine below_set ?_ GE279.out | refine below_set ?_ GE280.out | refine below_set ?_ GE282.out) | exact HB.out)⟩⟩
            · rw [if_neg c15] at H
              exact absurd H (by simp)
          · rw [if_neg c13] at H
            exact absurd H (by simp)
        · rw [if_neg c12] at H
          exact absurd H (by simp)
      · rw [if_neg c11] at H
        have c11b0 : decide (x24_1 < (l0_7.length : Int)) = false := decide_eq_false c11
        clear c11
        simp only [Option.some.injEq, Prod.mk.injEq] at H
        obtain ⟨rfl, rfl, rfl, rfl, rfl, rfl, rfl, rfl⟩ := H
        have hnb28 := NB280_278.out
        have hnc28 := NB278_280.out
        have hnb29 := NB280_279.out
        have hnc29 := NB279_280.out
        have hcz30_0 : wr.cell? ⟨gb280, 0, none⟩ = some (.string a0_0) := (blk_cell BK280.out 0).trans rfl
        have hcz30_1 : wr.cell? ⟨gb280, 1, none⟩ = some (.int .i64 a0_1) := (blk_cell BK280.out 1).trans rfl
        have hcz30_2 : wr.cell? ⟨gb280, 2, none⟩ = some (.bool a0_2) := (blk_cell BK280.out 2).trans rfl
        have hcz30_3 : wr.cell? ⟨gb280, 3, none⟩ = some (.int .i64 a0_3) := (blk_cell BK280.out 3).trans rfl
        have hcz30_4 : wr.cell? ⟨gb280, 4, none⟩ = some (.int .u64 a0_4) := (blk_cell BK280.out 4).trans rfl
        have hcz30_5 : wr.cell? ⟨gb280, 5, none⟩ = some (.float .f64 a0_5) := (blk_cell BK280.out 5).trans rfl
        have hcz30_6 : wr.cell? ⟨gb280, 6, none⟩ = some (.string a0_6) := (blk_cell BK280.out 6).trans rfl
        have hcz30_7 : wr.cell? ⟨gb280, 7, none⟩ = some (u281007) := (blk_cell BK280.out 7).trans rfl
        have hfz30_0 := blk_frozen BK280.out 0
        have hfz30_1 := blk_frozen BK280.out 1
        have hfz30_2 := blk_frozen BK280.out 2
        have hfz30_3 := blk_frozen BK280.out 3
        have hfz30_4 := blk_frozen BK280.out 4
        have hfz30_5 := blk_frozen BK280.out 5
        have hfz30_6 := blk_frozen BK280.out 6
        have hfz30_7 := blk_frozen BK280.out 7
        have hnb31 := NB279_278.out
        have hnc31 := NB278_279.out
        have hcz32_0 : wr.cell? ⟨gb279, 0, none⟩ = some (.string (⟨#[]⟩ : ByteArray)) := (blk_cell BK279.out 0).trans rfl
        have hcz32_1 : wr.cell? ⟨gb279, 1, none⟩ = some (.int .i64 0) := (blk_cell BK279.out 1).trans rfl
        have hcz32_2 : wr.cell? ⟨gb279, 2, none⟩ = some (.bool false) := (blk_cell BK279.out 2).trans rfl
        have hcz32_3 : wr.cell? ⟨gb279, 3, none⟩ = some (.int .i64 0) := (blk_cell BK279.out 3).trans rfl
        have hcz32_4 : wr.cell? ⟨gb279, 4, none⟩ = some (.int .u64 0) := (blk_cell BK279.out 4).trans rfl
        have hcz32_5 : wr.cell? ⟨gb279, 5, none⟩ = some (.float .f64 (0 : Nat)) := (blk_cell BK279.out 5).trans rfl
        have hcz32_6 : wr.cell? ⟨gb279, 6, none⟩ = some (.string (⟨#[]⟩ : ByteArray)) := (blk_cell BK279.out 6).trans rfl
        have hcz32_7 : wr.cell? ⟨gb279, 7, none⟩ = some (.slice none 0 0) := (blk_cell BK279.out 7).trans rfl
        have hfz32_0 := blk_frozen BK279.out 0
        have hfz32_1 := blk_frozen BK279.out 1
        have hfz32_2 := blk_frozen BK279.out 2
        have hfz32_3 := blk_frozen BK279.out 3
        have hfz32_4 := blk_frozen BK279.out 4
        have hfz32_5 := blk_frozen BK279.out 5
        have hfz32_6 := blk_frozen BK279.out 6
        have hfz32_7 := blk_frozen BK279.out 7
        obtain ⟨Ao33, co33, eo33⟩ := Kd.R_slice HO_281007.out
        subst eo33
        go_wp2
        refine bodyPost_ret (results_cell_row rfl _ _ gb279 39 #[.string a0_0, .int .i64 a0_1, .bool a0_2, .int .i64 a0_3, .int .u64 a0_4, .float .f64 a0_5, .string a0_6, .slice Ao33 x281007_1.length co33] (0, 0) _ rfl (by (with_reducible repeat (first | refine blk_drewN ?_ _ | refine blk_drew ?_ | refine blk_alloc ?_ _)); refine blk_put (cs := #[.string a0_0, .int .i64 a0_1, .bool a0_2, .int .i64 a0_3, .int .u64 a0_4, .float .f64 a0_5, .string a0_6, .slice none 0 0]) ?_ 7 _ rfl; (with_reducible repeat (first | refine blk_drewN ?_ _ | refine blk_drew ?_ | refine blk_alloc ?_ _)); refine blk_put (cs := #[.string a0_0, .int .i64 a0_1, .bool a0_2, .int .i64 a0_3, .int .u64 a0_4, .float .f64 a0_5, .string (⟨#[]⟩ : ByteArray), .slice none 0 0]) ?_ 6 _ rfl; (with_reducible repeat (first | refine blk_drewN ?_ _ | refine blk_drew ?_ | refine blk_alloc ?_ _)); refine blk_put (cs := #[.string a0_0, .int .i64 a0_1, .bool a0_2, .int .i64 a0_3, .int .u64 a0_4, .float .f64 (0 : Nat), .string (⟨#[]⟩ : ByteArray), .slice none 0 0]) ?_ 5 _ rfl; (with_reducible repeat (first | refine blk_drewN ?_ _ | refine blk_drew ?_ | refine blk_alloc ?_ _)); refine blk_put (cs := #[.string a0_0, .int .i64 a0_1, .bool a0_2, .int .i64 a0_3, .int .u64 0, .float .f64 (0 : Nat), .string (⟨#[]⟩ : ByteArray), .slice none 0 0]) ?_ 4 _ rfl; (with_reducible repeat (first | refine blk_drewN ?_ _ | refine blk_drew ?_ | refine blk_alloc ?_ _)); refine blk_put (cs := #[.string a0_0, .int .i64 a0_1, .bool a0_2, .int .i64 0, .int .u64 0, .float .f64 (0 : Nat), .string (⟨#[]⟩ : ByteArray), .slice none 0 0]) ?_ 3 _ rfl; (with_reducible repeat (first | refine blk_drewN ?_ _ | refine blk_drew ?_ | refine blk_alloc ?_ _)); refine blk_put (cs := #[.string a0_0, .int .i64 a0_1, .bool false, .int .i64 0, .int .u64 0, .float .f64 (0 : Nat), .string (⟨#[]⟩ : ByteArray), .slice none 0 0]) ?_ 2 _ rfl; (with_reducible repeat (first | refine blk_drewN ?_ _ | refine blk_drew ?_ | refine blk_alloc ?_ _)); refine blk_put (cs := #[.string a0_0, .int .i64 0, .bool false, .int .i64 0, .int .u64 0, .float .f64 (0 : Nat), .string (⟨#[]⟩ : ByteArray), .slice none 0 0]) ?_ 1 _ rfl; (with_reducible repeat (first | refine blk_drewN ?_ _ | refine blk_drew ?_ | refine blk_alloc ?_ _)); refine blk_put (cs := #[.string (⟨#[]⟩ : ByteArray), .int .i64 0, .bool false, .int .i64 0, .int .u64 0, .float .f64 (0 : Nat), .string (⟨#[]⟩ : ByteArray), .slice none 0 0]) ?_ 0 _ rfl; (with_reducible repeat (first | refine blk_drewN ?_ _ | refine blk_drew ?_ | refine blk_alloc ?_ _)); exact BK279.out) Tryz.underlying39 rfl (by kernel_rfl)) rfl ?_
        exact ⟨_, by first | rfl | (simp [errW_none, errW_some] <;> rfl) | (simp [*, errW_none, errW_some] <;> rfl), by (with_reducible repeat (first | apply Kd.R_alloc | apply Kd.R_drewN | apply Kd.R_drew)); exact Kd.R_mono (Kd.R_far (p := ⟨gb279, 7, none⟩) (Kd.R_far (p := ⟨gb279, 6, none⟩) (Kd.R_far (p := ⟨gb279, 5, none⟩) (Kd.R_far (p := ⟨gb279, 4, none⟩) (Kd.R_far (p := ⟨gb279, 3, none⟩) (Kd.R_far (p := ⟨gb279, 2, none⟩) (Kd.R_far (p := ⟨gb279, 1, none⟩) (Kd.R_far (p := ⟨gb279, 0, none⟩) (Kd.R_mono HO_281007.out (fun k_ hk => (⟨hk, hk.1⟩ : _ ∧ k_ ≠ gb279))) (fun _ hk => hk.2) (.string a0_0)) (fun _ hk => hk.2) (.int .i64 a0_1)) (fun _ hk => hk.2) (.bool a0_2)) (fun _ hk => hk.2) (.int .i64 a0_3)) (fun _ hk => hk.2) (.int .u64 a0_4)) (fun _ hk => hk.2) (.float .f64 a0_5)) (fun _ hk => hk.2) (.string a0_6)) (fun _ hk => hk.2) (.slice Ao33 x281007_1.length co33)) (fun _ hk => trivial), by repeat (first | (with_reducible first | exact HB.out | apply below_alloc | apply pw_below_drewN | apply below_drew1 | refine below_set ?_ GE278.out | refine below_set ?_ GE279.out | refine below_set ?_ GE280.out) | exact HB.out)⟩

end Go.Proofs.YtabfglmpnkgecaaGreatDoor.Q
