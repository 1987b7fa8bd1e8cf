/- The two builders of xfs's structs that take one number more or less: vnodes (8) and quotas (9). (Written by a program of this claim.) -/
import Derived.Test.YtfcalbjebomgcaaGreatDoorM09
set_option linter.unusedVariables false
set_option linter.unusedSimpArgs false
namespace Go.Proofs.YtfcalbjebomgcaaGreatDoor.X
open Go.RowKit Go.Proofs.YtfcalbjebomgcaaGreatDoorW.PrintWords Go.Proofs.YtfcalbjebomgcaaGreatDoorW.PrintLast Go.Proofs.YtfcalbjebomgcaaGreatDoorW.PrintMore Go.Proofs.YtfcalbjebomgcaaGreatDoor.Q

set_option maxHeartbeats 4000000 in
set_option maxRecDepth 100000 in
theorem pb56 (vals : List Int) (hv : vals.length = 8) (g : Nat) (e : TypeId) (w : World) (hg : w.heap[g]? = some (.cells (vals.map (encI false)).toArray e (0, 0))) : Calls Tryz.prog 56 #[.slice (some ⟨g, 0, none⟩) 8 8] w fun e w' => e = .returned (.tuple #[.agg (vals.map (encI false)).toArray, .nilIface]) ∧ Below w.heap.size w w' := by
  have huT := Tryz.underlying88
  match vals, hv, hg with
  | [v0, v1, v2, v3, v4, v5, v6, v7], _, hg =>
  have hg : w.heap[g]? = some (.cells #[.int .u32 v0, .int .u32 v1, .int .u32 v2, .int .u32 v3, .int .u32 v4, .int .u32 v5, .int .u32 v6, .int .u32 v7] e (0, 0)) := hg
  have HG := Aside0.mk hg
  obtain ⟨b, hb⟩ : ∃ b, b = w.heap.size := ⟨_, rfl⟩
  have HB := Aside0.mk hb
  clear hg hb
  go_enter Tryz.func56, Tryz.ntmps56
  go_wp2_with fail
  have H1 : Aside0 ((w.alloc (.cells #[.int .u32 0, .int .u32 0, .int .u32 0, .int .u32 0, .int .u32 0, .int .u32 0, .int .u32 0, .int .u32 0] 88 (0, 0))).heap[g]? = some (.cells #[.int .u32 v0, .int .u32 v1, .int .u32 v2, .int .u32 v3, .int .u32 v4, .int .u32 v5, .int .u32 v6, .int .u32 v7] e (0, 0)) ∧ (w.alloc (.cells #[.int .u32 0, .int .u32 0, .int .u32 0, .int .u32 0, .int .u32 0, .int .u32 0, .int .u32 0, .int .u32 0] 88 (0, 0))).heap[b]? = some (.cells #[.int .u32 0, .int .u32 0, .int .u32 0, .int .u32 0, .int .u32 0, .int .u32 0, .int .u32 0, .int .u32 0] 88 (0, 0)) ∧ Below w.heap.size w (w.alloc (.cells #[.int .u32 0, .int .u32 0, .int .u32 0, .int .u32 0, .int .u32 0, .int .u32 0, .int .u32 0, .int .u32 0] 88 (0, 0))) ∧ b < (w.alloc (.cells #[.int .u32 0, .int .u32 0, .int .u32 0, .int .u32 0, .int .u32 0, .int .u32 0, .int .u32 0, .int .u32 0] 88 (0, 0))).heap.size) := ⟨blk_alloc HG.out _, by rw [HB.out]; exact blk_new _ _, below_alloc (Below.refl _ _) _, by rw [World.size_alloc, HB.out]; omega⟩
  rw [← HB.out]
  generalize (w.alloc (.cells #[.int .u32 0, .int .u32 0, .int .u32 0, .int .u32 0, .int .u32 0, .int .u32 0, .int .u32 0, .int .u32 0] 88 (0, 0))) = w1 at *
  have c0 : w1.cell? ⟨g, 0, none⟩ = some (.int .u32 v0) ∧ w1.cell? ⟨g, 1, none⟩ = some (.int .u32 v1) ∧ w1.cell? ⟨g, 2, none⟩ = some (.int .u32 v2) ∧ w1.cell? ⟨g, 3, none⟩ = some (.int .u32 v3) ∧ w1.cell? ⟨g, 4, none⟩ = some (.int .u32 v4) ∧ w1.cell? ⟨g, 5, none⟩ = some (.int .u32 v5) ∧ w1.cell? ⟨g, 6, none⟩ = some (.int .u32 v6) ∧ w1.cell? ⟨g, 7, none⟩ = some (.int .u32 v7) := by
    refine ⟨(blk_cell H1.out.1 0).trans rfl, (blk_cell H1.out.1 1).trans rfl, (blk_cell H1.out.1 2).trans rfl, (blk_cell H1.out.1 3).trans rfl, (blk_cell H1.out.1 4).trans rfl, (blk_cell H1.out.1 5).trans rfl, (blk_cell H1.out.1 6).trans rfl, (blk_cell H1.out.1 7).trans rfl⟩
  have HA : ∀ o : Obj, ((w1.alloc o).drew.cell? ⟨g, 0, none⟩ = some (.int .u32 v0) ∧ (w1.alloc o).drew.cell? ⟨g, 1, none⟩ = some (.int .u32 v1) ∧ (w1.alloc o).drew.cell? ⟨g, 2, none⟩ = some (.int .u32 v2) ∧ (w1.alloc o).drew.cell? ⟨g, 3, none⟩ = some (.int .u32 v3) ∧ (w1.alloc o).drew.cell? ⟨g, 4, none⟩ = some (.int .u32 v4) ∧ (w1.alloc o).drew.cell? ⟨g, 5, none⟩ = some (.int .u32 v5) ∧ (w1.alloc o).drew.cell? ⟨g, 6, none⟩ = some (.int .u32 v6) ∧ (w1.alloc o).drew.cell? ⟨g, 7, none⟩ = some (.int .u32 v7)) ∧ Aside0 ((w1.alloc o).drew.heap[g]? = some (.cells #[.int .u32 v0, .int .u32 v1, .int .u32 v2, .int .u32 v3, .int .u32 v4, .int .u32 v5, .int .u32 v6, .int .u32 v7] e (0, 0)) ∧ (w1.alloc o).drew.heap[b]? = some (.cells #[.int .u32 0, .int .u32 0, .int .u32 0, .int .u32 0, .int .u32 0, .int .u32 0, .int .u32 0, .int .u32 0] 88 (0, 0)) ∧ Below w.heap.size w (w1.alloc o).drew ∧ b < (w1.alloc o).drew.heap.size) := fun o => by
    have hh := blk_alloc H1.out.1 o
    refine ⟨⟨(blk_cell hh 0).trans rfl, (blk_cell hh 1).trans rfl, (blk_cell hh 2).trans rfl, (blk_cell hh 3).trans rfl, (blk_cell hh 4).trans rfl, (blk_cell hh 5).trans rfl, (blk_cell hh 6).trans rfl, (blk_cell hh 7).trans rfl⟩, ⟨hh, blk_alloc H1.out.2.1 o, below_drew (below_alloc H1.out.2.2.1 _), ?_⟩⟩
    have := World.size_alloc w1 o
    have h2 := H1.out.2.2.2
    show b < (w1.alloc o).heap.size
    omega
  replace HA := Aside0.mk HA
  go_region_held3 (fun W => (W.cell? ⟨g, 0, none⟩ = some (.int .u32 v0) ∧ W.cell? ⟨g, 1, none⟩ = some (.int .u32 v1) ∧ W.cell? ⟨g, 2, none⟩ = some (.int .u32 v2) ∧ W.cell? ⟨g, 3, none⟩ = some (.int .u32 v3) ∧ W.cell? ⟨g, 4, none⟩ = some (.int .u32 v4) ∧ W.cell? ⟨g, 5, none⟩ = some (.int .u32 v5) ∧ W.cell? ⟨g, 6, none⟩ = some (.int .u32 v6) ∧ W.cell? ⟨g, 7, none⟩ = some (.int .u32 v7)) ∧ Aside0 (W.heap[g]? = some (.cells #[.int .u32 v0, .int .u32 v1, .int .u32 v2, .int .u32 v3, .int .u32 v4, .int .u32 v5, .int .u32 v6, .int .u32 v7] e (0, 0)) ∧ W.heap[b]? = some (.cells #[.int .u32 0, .int .u32 0, .int .u32 0, .int .u32 0, .int .u32 0, .int .u32 0, .int .u32 0, .int .u32 0] 88 (0, 0)) ∧ Below w.heap.size w W ∧ b < W.heap.size)) (first | exact ⟨c0, ⟨H1.out.1, H1.out.2.1, below_drew H1.out.2.2.1, H1.out.2.2.2⟩⟩ | exact HA.out _) (fail)
  all_goals rename_i hh
  all_goals (have H2 : Aside0 ((w1.alloc (.cells #[.int .u32 v0, .int .u32 v1, .int .u32 v2, .int .u32 v3, .int .u32 v4, .int .u32 v5, .int .u32 v6, .int .u32 0] 88 (0, 0))).drew.heap[w1.heap.size]? = some (.cells #[.int .u32 v0, .int .u32 v1, .int .u32 v2, .int .u32 v3, .int .u32 v4, .int .u32 v5, .int .u32 v6, .int .u32 0] 88 (0, 0)) ∧ b ≠ w1.heap.size ∧ w.heap.size ≤ w1.heap.size) := ⟨blk_new _ _, by have := H1.out.2.2.2; omega, by have := H1.out.2.2.2; have := HB.out; omega⟩)
  all_goals clear c0 HA H1
  all_goals obtain ⟨c0, H3⟩ := hh
  all_goals generalize (w1.alloc (.cells #[.int .u32 v0, .int .u32 v1, .int .u32 v2, .int .u32 v3, .int .u32 v4, .int .u32 v5, .int .u32 v6, .int .u32 0] 88 (0, 0))).drew = w2 at *
  all_goals generalize w1.heap.size = nb at *
  all_goals (have n1 : w2.cell? ⟨nb, 7, none⟩ = some (.int .u32 0) := (blk_cell H2.out.1 7).trans rfl)
  all_goals (have n2 : w2.frozen? ⟨nb, 7, none⟩ = false := blk_frozen H2.out.1 7)
  all_goals go_upto_region 8 with (fail)
  all_goals (have H4 : Aside0 ((w2.setCell ⟨nb, 7, none⟩ (.int .u32 v7)).heap[nb]? = some (.cells #[.int .u32 v0, .int .u32 v1, .int .u32 v2, .int .u32 v3, .int .u32 v4, .int .u32 v5, .int .u32 v6, .int .u32 v7] 88 (0, 0)) ∧ (w2.setCell ⟨nb, 7, none⟩ (.int .u32 v7)).heap[b]? = some (.cells #[.int .u32 0, .int .u32 0, .int .u32 0, .int .u32 0, .int .u32 0, .int .u32 0, .int .u32 0, .int .u32 0] 88 (0, 0)) ∧ Below w.heap.size w (w2.setCell ⟨nb, 7, none⟩ (.int .u32 v7))) := ⟨blk_put H2.out.1 7 _ rfl, (Below.heap_setCell _ _ _ _ H2.out.2.1).trans H3.out.2.1, H3.out.2.2.1.setCell H2.out.2.2 _⟩)
  all_goals clear c0 n1 n2 H3 HG
  all_goals generalize (w2.setCell ⟨nb, 7, none⟩ (.int .u32 v7)) = w3 at *
  all_goals (have hr : w3.rangeAt nb 0 #[.int .u32 v0, .int .u32 v1, .int .u32 v2, .int .u32 v3, .int .u32 v4, .int .u32 v5, .int .u32 v6, .int .u32 v7].toList := fun j v hj => by rw [Nat.zero_add]; exact (blk_cell H4.out.1 j).trans (by rw [← Array.getElem?_toList]; exact hj))
  all_goals (have z0 : ∀ j, w3.cell? ⟨b, j, none⟩ = (#[.int .u32 0, .int .u32 0, .int .u32 0, .int .u32 0, .int .u32 0, .int .u32 0, .int .u32 0, .int .u32 0] : Array Value)[j]? := fun j => blk_cell H4.out.2.1 j)
  all_goals (have f0 : ∀ j, w3.frozen? ⟨b, j, none⟩ = false := fun j => blk_frozen H4.out.2.1 j)
  all_goals go_wp2_with ((with_reducible refine gate_dst (N := 45) rfl ?_); refine wpList_load_mid rfl 88 (.tmp 5) rfl nb 0 rfl #[.int .u32 v0, .int .u32 v1, .int .u32 v2, .int .u32 v3, .int .u32 v4, .int .u32 v5, .int .u32 v6, .int .u32 v7].toList _ hr huT rfl (by kernel_rfl) ?_)
  all_goals (have hbb : w.heap.size ≤ b := by rw [HB.out]; exact Nat.le_refl _)
  all_goals refine bodyPost_ret (results_ct rfl _ _ b 88 #[.int .u32 v0, .int .u32 v1, .int .u32 v2, .int .u32 v3, .int .u32 v4, .int .u32 v5, .int .u32 v6, .int .u32 v7] (0, 0) _ rfl (blk_put (blk_put (blk_put (blk_put (blk_put (blk_put (blk_put (blk_put (H4.out.2.1) 0 _ rfl) 1 _ rfl) 2 _ rfl) 3 _ rfl) 4 _ rfl) 5 _ rfl) 6 _ rfl) 7 _ rfl) huT rfl (by kernel_rfl)) rfl ?_
  all_goals exact ⟨rfl, ((((((((H4.out.2.2).setCell hbb _).setCell hbb _).setCell hbb _).setCell hbb _).setCell hbb _).setCell hbb _).setCell hbb _).setCell hbb _⟩
 
set_option maxHeartbeats 4000000 in
set_option maxRecDepth 100000 in
theorem pb72 (vals : List Int) (hv : vals.length = 9) (g : Nat) (e : TypeId) (w : World) (hg : w.heap[g]? = some (.cells (vals.map (encI false)).toArray e (0, 0))) : Calls Tryz.prog 72 #[.slice (some ⟨g, 0, none⟩) 9 9] w fun e w' => e = .returned (.tuple #[.agg (vals.map (encI false)).toArray, .nilIface]) ∧ Below w.heap.size w w' := by
  have huT := Tryz.underlying100
  match vals, hv, hg with
  | [v0, v1, v2, v3, v4, v5, v6, v7, v8], _, hg =>
  have hg : w.heap[g]? = some (.cells #[.int .u32 v0, .int .u32 v1, .int .u32 v2, .int .u32 v3, .int .u32 v4, .int .u32 v5, .int .u32 v6, .int .u32 v7, .int .u32 v8] e (0, 0)) := hg
  have HG := Aside0.mk hg
  obtain ⟨b, hb⟩ : ∃ b, b = w.heap.size := ⟨_, rfl⟩
  have HB := Aside0.mk hb
  clear hg hb
  go_enter Tryz.func72, Tryz.ntmps72
  go_wp2_with fail
  have H1 : Aside0 ((w.alloc (.cells #[.int .u32 0, .int .u32 0, .int .u32 0, .int .u32 0, .int .u32 0, .int .u32 0, .int .u32 0, .int .u32 0, .int .u32 0] 100 (0, 0))).heap[g]? = some (.cells #[.int .u32 v0, .int .u32 v1, .int .u32 v2, .int .u32 v3, .int .u32 v4, .int .u32 v5, .int .u32 v6, .int .u32 v7, .int .u32 v8] e (0, 0)) ∧ (w.alloc (.cells #[.int .u32 0, .int .u32 0, .int .u32 0, .int .u32 0, .int .u32 0, .int .u32 0, .int .u32 0, .int .u32 0, .int .u32 0] 100 (0, 0))).heap[b]? = some (.cells #[.int .u32 0, .int .u32 0, .int .u32 0, .int .u32 0, .int .u32 0, .int .u32 0, .int .u32 0, .int .u32 0, .int .u32 0] 100 (0, 0)) ∧ Below w.heap.size w (w.alloc (.cells #[.int .u32 0, .int .u32 0, .int .u32 0, .int .u32 0, .int .u32 0, .int .u32 0, .int .u32 0, .int .u32 0, .int .u32 0] 100 (0, 0))) ∧ b < (w.alloc (.cells #[.int .u32 0, .int .u32 0, .int .u32 0, .int .u32 0, .int .u32 0, .int .u32 0, .int .u32 0, .int .u32 0, .int .u32 0] 100 (0, 0))).heap.size) := ⟨blk_alloc HG.out _, by rw [HB.out]; exact blk_new _ _, below_alloc (Below.refl _ _) _, by rw [World.size_alloc, HB.out]; omega⟩
  rw [← HB.out]
  generalize (w.alloc (.cells #[.int .u32 0, .int .u32 0, .int .u32 0, .int .u32 0, .int .u32 0, .int .u32 0, .int .u32 0, .int .u32 0, .int .u32 0] 100 (0, 0))) = w1 at *
  have c0 : w1.cell? ⟨g, 0, none⟩ = some (.int .u32 v0) ∧ w1.cell? ⟨g, 1, none⟩ = some (.int .u32 v1) ∧ w1.cell? ⟨g, 2, none⟩ = some (.int .u32 v2) ∧ w1.cell? ⟨g, 3, none⟩ = some (.int .u32 v3) ∧ w1.cell? ⟨g, 4, none⟩ = some (.int .u32 v4) ∧ w1.cell? ⟨g, 5, none⟩ = some (.int .u32 v5) ∧ w1.cell? ⟨g, 6, none⟩ = some (.int .u32 v6) ∧ w1.cell? ⟨g, 7, none⟩ = some (.int .u32 v7) ∧ w1.cell? ⟨g, 8, none⟩ = some (.int .u32 v8) := by
    refine ⟨(blk_cell H1.out.1 0).trans rfl, (blk_cell H1.out.1 1).trans rfl, (blk_cell H1.out.1 2).trans rfl, (blk_cell H1.out.1 3).trans rfl, (blk_cell H1.out.1 4).trans rfl, (blk_cell H1.out.1 5).trans rfl, (blk_cell H1.out.1 6).trans rfl, (blk_cell H1.out.1 7).trans rfl, (blk_cell H1.out.1 8).trans rfl⟩
  have HA : ∀ o : Obj, ((w1.alloc o).drew.cell? ⟨g, 0, none⟩ = some (.int .u32 v0) ∧ (w1.alloc o).drew.cell? ⟨g, 1, none⟩ = some (.int .u32 v1) ∧ (w1.alloc o).drew.cell? ⟨g, 2, none⟩ = some (.int .u32 v2) ∧ (w1.alloc o).drew.cell? ⟨g, 3, none⟩ = some (.int .u32 v3) ∧ (w1.alloc o).drew.cell? ⟨g, 4, none⟩ = some (.int .u32 v4) ∧ (w1.alloc o).drew.cell? ⟨g, 5, none⟩ = some (.int .u32 v5) ∧ (w1.alloc o).drew.cell? ⟨g, 6, none⟩ = some (.int .u32 v6) ∧ (w1.alloc o).drew.cell? ⟨g, 7, none⟩ = some (.int .u32 v7) ∧ (w1.alloc o).drew.cell? ⟨g, 8, none⟩ = some (.int .u32 v8)) ∧ Aside0 ((w1.alloc o).drew.heap[g]? = some (.cells #[.int .u32 v0, .int .u32 v1, .int .u32 v2, .int .u32 v3, .int .u32 v4, .int .u32 v5, .int .u32 v6, .int .u32 v7, .int .u32 v8] e (0, 0)) ∧ (w1.alloc o).drew.heap[b]? = some (.cells #[.int .u32 0, .int .u32 0, .int .u32 0, .int .u32 0, .int .u32 0, .int .u32 0, .int .u32 0, .int .u32 0, .int .u32 0] 100 (0, 0)) ∧ Below w.heap.size w (w1.alloc o).drew ∧ b < (w1.alloc o).drew.heap.size) := fun o => by
    have hh := blk_alloc H1.out.1 o
    refine ⟨⟨(blk_cell hh 0).trans rfl, (blk_cell hh 1).trans rfl, (blk_cell hh 2).trans rfl, (blk_cell hh 3).trans rfl, (blk_cell hh 4).trans rfl, (blk_cell hh 5).trans rfl, (blk_cell hh 6).trans rfl, (blk_cell hh 7).trans rfl, (blk_cell hh 8).trans rfl⟩, ⟨hh, blk_alloc H1.out.2.1 o, below_drew (below_alloc H1.out.2.2.1 _), ?_⟩⟩
    have := World.size_alloc w1 o
    have h2 := H1.out.2.2.2
    show b < (w1.alloc o).heap.size
    omega
  replace HA := Aside0.mk HA
  go_region_held3 (fun W => (W.cell? ⟨g, 0, none⟩ = some (.int .u32 v0) ∧ W.cell? ⟨g, 1, none⟩ = some (.int .u32 v1) ∧ W.cell? ⟨g, 2, none⟩ = some (.int .u32 v2) ∧ W.cell? ⟨g, 3, none⟩ = some (.int .u32 v3) ∧ W.cell? ⟨g, 4, none⟩ = some (.int .u32 v4) ∧ W.cell? ⟨g, 5, none⟩ = some (.int .u32 v5) ∧ W.cell? ⟨g, 6, none⟩ = some (.int .u32 v6) ∧ W.cell? ⟨g, 7, none⟩ = some (.int .u32 v7) ∧ W.cell? ⟨g, 8, none⟩ = some (.int .u32 v8)) ∧ Aside0 (W.heap[g]? = some (.cells #[.int .u32 v0, .int .u32 v1, .int .u32 v2, .int .u32 v3, .int .u32 v4, .int .u32 v5, .int .u32 v6, .int .u32 v7, .int .u32 v8] e (0, 0)) ∧ W.heap[b]? = some (.cells #[.int .u32 0, .int .u32 0, .int .u32 0, .int .u32 0, .int .u32 0, .int .u32 0, .int .u32 0, .int .u32 0, .int .u32 0] 100 (0, 0)) ∧ Below w.heap.size w W ∧ b < W.heap.size)) (first | exact ⟨c0, ⟨H1.out.1, H1.out.2.1, below_drew H1.out.2.2.1, H1.out.2.2.2⟩⟩ | exact HA.out _) (fail)
  all_goals rename_i hh
  all_goals (have H2 : Aside0 ((w1.alloc (.cells #[.int .u32 v0, .int .u32 v1, .int .u32 v2, .int .u32 v3, .int .u32 v4, .int .u32 v5, .int .u32 v6, .int .u32 v7, .int .u32 0] 100 (0, 0))).drew.heap[w1.heap.size]? = some (.cells #[.int .u32 v0, .int .u32 v1, .int .u32 v2, .int .u32 v3, .int .u32 v4, .int .u32 v5, .int .u32 v6, .int .u32 v7, .int .u32 0] 100 (0, 0)) ∧ b ≠ w1.heap.size ∧ w.heap.size ≤ w1.heap.size) := ⟨blk_new _ _, by have := H1.out.2.2.2; omega, by have := H1.out.2.2.2; have := HB.out; omega⟩)
  all_goals clear c0 HA H1
  all_goals obtain ⟨c0, H3⟩ := hh
  all_goals generalize (w1.alloc (.cells #[.int .u32 v0, .int .u32 v1, .int .u32 v2, .int .u32 v3, .int .u32 v4, .int .u32 v5, .int .u32 v6, .int .u32 v7, .int .u32 0] 100 (0, 0))).drew = w2 at *
  all_goals generalize w1.heap.size = nb at *
  all_goals (have n1 : w2.cell? ⟨nb, 8, none⟩ = some (.int .u32 0) := (blk_cell H2.out.1 8).trans rfl)
  all_goals (have n2 : w2.frozen? ⟨nb, 8, none⟩ = false := blk_frozen H2.out.1 8)
  all_goals go_upto_region 7 with (fail)
  all_goals (have H4 : Aside0 ((w2.setCell ⟨nb, 8, none⟩ (.int .u32 v8)).heap[nb]? = some (.cells #[.int .u32 v0, .int .u32 v1, .int .u32 v2, .int .u32 v3, .int .u32 v4, .int .u32 v5, .int .u32 v6, .int .u32 v7, .int .u32 v8] 100 (0, 0)) ∧ (w2.setCell ⟨nb, 8, none⟩ (.int .u32 v8)).heap[b]? = some (.cells #[.int .u32 0, .int .u32 0, .int .u32 0, .int .u32 0, .int .u32 0, .int .u32 0, .int .u32 0, .int .u32 0, .int .u32 0] 100 (0, 0)) ∧ Below w.heap.size w (w2.setCell ⟨nb, 8, none⟩ (.int .u32 v8))) := ⟨blk_put H2.out.1 8 _ rfl, (Below.heap_setCell _ _ _ _ H2.out.2.1).trans H3.out.2.1, H3.out.2.2.1.setCell H2.out.2.2 _⟩)
  all_goals clear c0 n1 n2 H3 HG
  all_goals generalize (w2.setCell ⟨nb, 8, none⟩ (.int .u32 v8)) = w3 at *
  all_goals (have hr : w3.rangeAt nb 0 #[.int .u32 v0, .int .u32 v1, .int .u32 v2, .int .u32 v3, .int .u32 v4, .int .u32 v5, .int .u32 v6, .int .u32 v7, .int .u32 v8].toList := fun j v hj => by rw [Nat.zero_add]; exact (blk_cell H4.out.1 j).trans (by rw [← Array.getElem?_toList]; exact hj))
  all_goals (have z0 : ∀ j, w3.cell? ⟨b, j, none⟩ = (#[.int .u32 0, .int .u32 0, .int .u32 0, .int .u32 0, .int .u32 0, .int .u32 0, .int .u32 0, .int .u32 0, .int .u32 0] : Array Value)[j]? := fun j => blk_cell H4.out.2.1 j)
  all_goals (have f0 : ∀ j, w3.frozen? ⟨b, j, none⟩ = false := fun j => blk_frozen H4.out.2.1 j)
  all_goals go_wp2_with ((with_reducible refine gate_dst (N := 47) rfl ?_); refine wpList_load_mid rfl 100 (.tmp 5) rfl nb 0 rfl #[.int .u32 v0, .int .u32 v1, .int .u32 v2, .int .u32 v3, .int .u32 v4, .int .u32 v5, .int .u32 v6, .int .u32 v7, .int .u32 v8].toList _ hr huT rfl (by kernel_rfl) ?_)
  all_goals (have hbb : w.heap.size ≤ b := by rw [HB.out]; exact Nat.le_refl _)
  all_goals refine bodyPost_ret (results_ct rfl _ _ b 100 #[.int .u32 v0, .int .u32 v1, .int .u32 v2, .int .u32 v3, .int .u32 v4, .int .u32 v5, .int .u32 v6, .int .u32 v7, .int .u32 v8] (0, 0) _ rfl (blk_put (blk_put (blk_put (blk_put (blk_put (blk_put (blk_put (blk_put (blk_put (H4.out.2.1) 0 _ rfl) 1 _ rfl) 2 _ rfl) 3 _ rfl) 4 _ rfl) 5 _ rfl) 6 _ rfl) 7 _ rfl) 8 _ rfl) huT rfl (by kernel_rfl)) rfl ?_
  all_goals exact ⟨rfl, (((((((((H4.out.2.2).setCell hbb _).setCell hbb _).setCell hbb _).setCell hbb _).setCell hbb _).setCell hbb _).setCell hbb _).setCell hbb _).setCell hbb _⟩

end Go.Proofs.YtfcalbjebomgcaaGreatDoor.X
