/- SameNode by contract: two readings of one tree. -/
import Derived.Test.YtfcalbjebomgcaaGreatDoorM02
import Derived.StillTailTactics
import Derived.Laws.Externs
import Derived.Test.YtfcalbjebomgcaaGreatDoorM22
import Derived.Test.YtfcalbjebomgcaaGreatDoorM25
import Derived.Test.YtfcalbjebomgcaaGreatDoorM26
import Derived.Test.YtfcalbjebomgcaaGreatDoorM12
import Derived.Test.YtfcalbjebomgcaaGreatDoorM06
set_option linter.unusedVariables false
set_option linter.unusedSimpArgs false
namespace Go.Proofs.YtfcalbjebomgcaaGreatDoor.X
open Go.RowKit Go.Proofs.YtfcalbjebomgcaaGreatDoorW.PrintWords Go.Proofs.YtfcalbjebomgcaaGreatDoorW.PrintLast Go.Proofs.YtfcalbjebomgcaaGreatDoorW.PrintMore Go.Proofs.YtfcalbjebomgcaaGreatDoor.Q
attribute [local go_sem] run_store_float

theorem f64bits_run (n : Nat) (w : World) : (callFunc 28 #[.float .f64 n]).run Tryz.prog w = .ok (.value (.int .u64 n)) w := by
  rw [run_callFunc_extern Tryz.func28 (by kernel_rfl) (by kernel_rfl) (by kernel_rfl) (e := Extern.MathFloatBits.float64bits) (by kernel_rfl)]
  rfl

set_option maxHeartbeats 8000000 in
set_option maxRecDepth 100000 in
theorem sameNode_calls (m : Nat) : ∀ (x : S39), SizeOf.sizeOf x ≤ m → ∀ (A : Option Addr) (c : Nat) (A' : Option Addr) (c' : Nat) (w : World), k39.C w A x.f7.length x.f7 → k39.C w A' x.f7.length x.f7 →
    Calls Tryz.prog 11 #[.agg #[.string x.f0, .int .i64 x.f1, .bool x.f2, .int .i64 x.f3, .int .u64 x.f4, .float .f64 x.f5, .string x.f6, .slice A x.f7.length c], .agg #[.string x.f0, .int .i64 x.f1, .bool x.f2, .int .i64 x.f3, .int .u64 x.f4, .float .f64 x.f5, .string x.f6, .slice A' x.f7.length c']] w fun e w' => e = .returned (.bool true) ∧ Below w.heap.size w w' := by
  induction m with
  | zero => intro x hx; exfalso; cases x; simp at hx
  | succ m ih =>
    intro x hx A c A' c' w hA hA'
    have HI := Aside0.mk ih
    have HX := Aside0.mk hx
    have HA := Aside0.mk hA
    have HA' := Aside0.mk hA'
    have hm : x.f7.length ≤ 9223372036854775807 := hA.2.1
    have hu39 := Tryz.underlying39
    have hbits := f64bits_run
    clear ih hx hA hA'
    go_enter Tryz.func11, Tryz.ntmps11
    go_upto_region 1 with (fail)
    have Hg1 := Aside0.mk (blk_alloc (blk_new w (.cells #[.string x.f0, .int .i64 x.f1, .bool x.f2, .int .i64 x.f3, .int .u64 x.f4, .float .f64 x.f5, .string x.f6, .slice A x.f7.length c] 39 (0, 0))) (.cells #[.string x.f0, .int .i64 x.f1, .bool x.f2, .int .i64 x.f3, .int .u64 x.f4, .float .f64 x.f5, .string x.f6, .slice A' x.f7.length c'] 39 (0, 0)))
    have Hg2 : Aside0 (((w.alloc (.cells #[.string x.f0, .int .i64 x.f1, .bool x.f2, .int .i64 x.f3, .int .u64 x.f4, .float .f64 x.f5, .string x.f6, .slice A x.f7.length c] 39 (0, 0))).alloc (.cells #[.string x.f0, .int .i64 x.f1, .bool x.f2, .int .i64 x.f3, .int .u64 x.f4, .float .f64 x.f5, .string x.f6, .slice A' x.f7.length c'] 39 (0, 0))).heap[w.heap.size + 1]? = some (.cells #[.string x.f0, .int .i64 x.f1, .bool x.f2, .int .i64 x.f3, .int .u64 x.f4, .float .f64 x.f5, .string x.f6, .slice A' x.f7.length c'] 39 (0, 0))) := ⟨by have := blk_new (w.alloc (.cells #[.string x.f0, .int .i64 x.f1, .bool x.f2, .int .i64 x.f3, .int .u64 x.f4, .float .f64 x.f5, .string x.f6, .slice A x.f7.length c] 39 (0, 0))) (.cells #[.string x.f0, .int .i64 x.f1, .bool x.f2, .int .i64 x.f3, .int .u64 x.f4, .float .f64 x.f5, .string x.f6, .slice A' x.f7.length c'] 39 (0, 0)); rwa [World.size_alloc] at this⟩
    have HB := Aside0.mk (below_alloc (below_alloc (Below.refl _ w) (.cells #[.string x.f0, .int .i64 x.f1, .bool x.f2, .int .i64 x.f3, .int .u64 x.f4, .float .f64 x.f5, .string x.f6, .slice A x.f7.length c] 39 (0, 0))) (.cells #[.string x.f0, .int .i64 x.f1, .bool x.f2, .int .i64 x.f3, .int .u64 x.f4, .float .f64 x.f5, .string x.f6, .slice A' x.f7.length c'] 39 (0, 0)))
    generalize ((w.alloc (.cells #[.string x.f0, .int .i64 x.f1, .bool x.f2, .int .i64 x.f3, .int .u64 x.f4, .float .f64 x.f5, .string x.f6, .slice A x.f7.length c] 39 (0, 0))).alloc (.cells #[.string x.f0, .int .i64 x.f1, .bool x.f2, .int .i64 x.f3, .int .u64 x.f4, .float .f64 x.f5, .string x.f6, .slice A' x.f7.length c'] 39 (0, 0))) = W1 at *
    obtain ⟨g2, hg2⟩ : ∃ g2, Aside0 (w.heap.size + 1 = g2) := ⟨_, ⟨rfl⟩⟩
    obtain ⟨g1, hg1⟩ : ∃ g1, Aside0 (w.heap.size = g1) := ⟨_, ⟨rfl⟩⟩
    rw [hg2.out] at Hg2 ⊢
    rw [hg1.out] at Hg1 ⊢
    have g1c0 : W1.cell? ⟨g1, 0, none⟩ = some (.string x.f0) := (blk_cell Hg1.out 0).trans rfl
    have g1c1 : W1.cell? ⟨g1, 1, none⟩ = some (.int .i64 x.f1) := (blk_cell Hg1.out 1).trans rfl
    have g1c2 : W1.cell? ⟨g1, 2, none⟩ = some (.bool x.f2) := (blk_cell Hg1.out 2).trans rfl
    have g1c3 : W1.cell? ⟨g1, 3, none⟩ = some (.int .i64 x.f3) := (blk_cell Hg1.out 3).trans rfl
    have g1c4 : W1.cell? ⟨g1, 4, none⟩ = some (.int .u64 x.f4) := (blk_cell Hg1.out 4).trans rfl
    have g1c5 : W1.cell? ⟨g1, 5, none⟩ = some (.float .f64 x.f5) := (blk_cell Hg1.out 5).trans rfl
    have g1c6 : W1.cell? ⟨g1, 6, none⟩ = some (.string x.f6) := (blk_cell Hg1.out 6).trans rfl
    have g1c7 : W1.cell? ⟨g1, 7, none⟩ = some (.slice A x.f7.length c) := (blk_cell Hg1.out 7).trans rfl
    have g2c0 : W1.cell? ⟨g2, 0, none⟩ = some (.string x.f0) := (blk_cell Hg2.out 0).trans rfl
    have g2c1 : W1.cell? ⟨g2, 1, none⟩ = some (.int .i64 x.f1) := (blk_cell Hg2.out 1).trans rfl
    have g2c2 : W1.cell? ⟨g2, 2, none⟩ = some (.bool x.f2) := (blk_cell Hg2.out 2).trans rfl
    have g2c3 : W1.cell? ⟨g2, 3, none⟩ = some (.int .i64 x.f3) := (blk_cell Hg2.out 3).trans rfl
    have g2c4 : W1.cell? ⟨g2, 4, none⟩ = some (.int .u64 x.f4) := (blk_cell Hg2.out 4).trans rfl
    have g2c5 : W1.cell? ⟨g2, 5, none⟩ = some (.float .f64 x.f5) := (blk_cell Hg2.out 5).trans rfl
    have g2c6 : W1.cell? ⟨g2, 6, none⟩ = some (.string x.f6) := (blk_cell Hg2.out 6).trans rfl
    have g2c7 : W1.cell? ⟨g2, 7, none⟩ = some (.slice A' x.f7.length c') := (blk_cell Hg2.out 7).trans rfl
    have e0 : (x.f0.toList != x.f0.toList) = false := bne_self_eq_false _
    have e1 : (x.f1 != x.f1) = false := bne_self_eq_false _
    have e2 : (x.f2 != x.f2) = false := bne_self_eq_false _
    have e3 : (x.f3 != x.f3) = false := bne_self_eq_false _
    have e4 : (x.f4 != x.f4) = false := bne_self_eq_false _
    have e5 : ((x.f5 : Int) != (x.f5 : Int)) = false := bne_self_eq_false _
    have e6 : (x.f6.toList != x.f6.toList) = false := bne_self_eq_false _
    have e7 : ((x.f7.length : Int) != (x.f7.length : Int)) = false := bne_self_eq_false _
    go_quiet (fail)
    have HW : Aside0 ((W1.drewN nq).heap[g1]? = some (.cells #[.string x.f0, .int .i64 x.f1, .bool x.f2, .int .i64 x.f3, .int .u64 x.f4, .float .f64 x.f5, .string x.f6, .slice A x.f7.length c] 39 (0, 0)) ∧ (W1.drewN nq).heap[g2]? = some (.cells #[.string x.f0, .int .i64 x.f1, .bool x.f2, .int .i64 x.f3, .int .u64 x.f4, .float .f64 x.f5, .string x.f6, .slice A' x.f7.length c'] 39 (0, 0)) ∧ Below w.heap.size w (W1.drewN nq)) := ⟨blk_drewN Hg1.out nq, blk_drewN Hg2.out nq, pw_below_drewN HB.out nq⟩
    clear g1c0 g2c0 g1c1 g2c1 g1c2 g2c2 g1c3 g2c3 g1c4 g2c4 g1c5 g2c5 g1c6 g2c6 g1c7 g2c7 Hg1 Hg2 HB
    generalize W1.drewN nq = W2 at *
    have g1c7 : W2.cell? ⟨g1, 7, none⟩ = some (.slice A x.f7.length c) := (blk_cell HW.out.1 7).trans rfl
    have g2c7 : W2.cell? ⟨g2, 7, none⟩ = some (.slice A' x.f7.length c') := (blk_cell HW.out.2.1 7).trans rfl
    clear e0 e1 e2 e3 e4 e5 e6 e7
    go_wp2_with fail
    go_loopw [67] (fun v67 W' => ∃ i : Nat, i ≤ x.f7.length ∧ v67 = .int .i64 i ∧ Aside0 (W'.heap[g1]? = some (.cells #[.string x.f0, .int .i64 x.f1, .bool x.f2, .int .i64 x.f3, .int .u64 x.f4, .float .f64 x.f5, .string x.f6, .slice A x.f7.length c] 39 (0, 0)) ∧ W'.heap[g2]? = some (.cells #[.string x.f0, .int .i64 x.f1, .bool x.f2, .int .i64 x.f3, .int .u64 x.f4, .float .f64 x.f5, .string x.f6, .slice A' x.f7.length c'] 39 (0, 0)) ∧ Below w.heap.size w W')) (fun v67 _ => x.f7.length - (intOf v67).toNat)
    case atStart => exact ⟨0, Nat.zero_le _, rfl, HW⟩
    case round =>
      clear g1c7 g2c7 HW
      obtain ⟨i, hi, rfl, HW⟩ := hrel
      by_cases hlt : i < x.f7.length
      · obtain ⟨ad, A7, c7, e, h0, h1, h2, h3, h4, h5, h6, h7, hl7, hC7⟩ := at_T39 HA.out (i : Int) (Int.natCast_nonneg _) (by omega)
        cases e
        obtain ⟨ad', A7', c7', e, k0, k1, k2, k3, k4, k5, k6, k7, kl7, kC7⟩ := at_T39 HA'.out (i : Int) (Int.natCast_nonneg _) (by omega)
        cases e
        rw [Int.toNat_natCast] at h0 h1 h2 h3 h4 h5 h6 h7 k0 k1 k2 k3 k4 k5 k6 k7
        have e0 : rd_T39 x.f7 (i : Int) = x.f7.getD i z39 := by rw [rd_T39, Int.toNat_natCast]
        rw [e0] at h0 h1 h2 h3 h4 h5 h6 h7 k0 k1 k2 k3 k4 k5 k6 k7 hl7 hC7 kl7 kC7
        have hmem : x.f7.getD i z39 ∈ x.f7 := by rw [List.getD_eq_getElem?_getD, List.getElem?_eq_getElem hlt]; exact List.getElem_mem hlt
        have hsz : SizeOf.sizeOf (x.f7.getD i z39) < SizeOf.sizeOf x.f7 := List.sizeOf_lt_of_mem hmem
        have hsx : SizeOf.sizeOf x.f7 < SizeOf.sizeOf x := by cases x; simp; omega
        have HY := Aside0.mk (show SizeOf.sizeOf (x.f7.getD i z39) ≤ m by have := HX.out; omega)
        clear hmem hsz hsx e0
        generalize x.f7.getD i z39 = y at *
        replace h0 := (HW.out.2.2.cell (World.block_lt_of_cell? w _ h0)).trans h0
        replace h1 := (HW.out.2.2.cell (World.block_lt_of_cell? w _ h1)).trans h1
        replace h2 := (HW.out.2.2.cell (World.block_lt_of_cell? w _ h2)).trans h2
        replace h3 := (HW.out.2.2.cell (World.block_lt_of_cell? w _ h3)).trans h3
        replace h4 := (HW.out.2.2.cell (World.block_lt_of_cell? w _ h4)).trans h4
        replace h5 := (HW.out.2.2.cell (World.block_lt_of_cell? w _ h5)).trans h5
        replace h6 := (HW.out.2.2.cell (World.block_lt_of_cell? w _ h6)).trans h6
        replace h7 := (HW.out.2.2.cell (World.block_lt_of_cell? w _ h7)).trans h7
        replace k0 := (HW.out.2.2.cell (World.block_lt_of_cell? w _ k0)).trans k0
        replace k1 := (HW.out.2.2.cell (World.block_lt_of_cell? w _ k1)).trans k1
        replace k2 := (HW.out.2.2.cell (World.block_lt_of_cell? w _ k2)).trans k2
        replace k3 := (HW.out.2.2.cell (World.block_lt_of_cell? w _ k3)).trans k3
        replace k4 := (HW.out.2.2.cell (World.block_lt_of_cell? w _ k4)).trans k4
        replace k5 := (HW.out.2.2.cell (World.block_lt_of_cell? w _ k5)).trans k5
        replace k6 := (HW.out.2.2.cell (World.block_lt_of_cell? w _ k6)).trans k6
        replace k7 := (HW.out.2.2.cell (World.block_lt_of_cell? w _ k7)).trans k7
        have HC7 := Aside0.mk (Kd.C_below hC7 HW.out.2.2)
        have KC7 := Aside0.mk (Kd.C_below kC7 HW.out.2.2)
        clear hC7 kC7 hl7 kl7
        have g1c7 : wr.cell? ⟨g1, 7, none⟩ = some (.slice (some ad) x.f7.length c) := (blk_cell HW.out.1 7).trans rfl
        have g2c7 : wr.cell? ⟨g2, 7, none⟩ = some (.slice (some ad') x.f7.length c') := (blk_cell HW.out.2.1 7).trans rfl
        go_upto_region 6 with (fail)
        go_still_tail 10, (by kernel_rfl)
        change wpList _ _ _ _ _ wr.drew
        have HW2 : Aside0 (wr.drew.heap[g1]? = some (.cells #[.string x.f0, .int .i64 x.f1, .bool x.f2, .int .i64 x.f3, .int .u64 x.f4, .float .f64 x.f5, .string x.f6, .slice (some ad) x.f7.length c] 39 (0, 0)) ∧ wr.drew.heap[g2]? = some (.cells #[.string x.f0, .int .i64 x.f1, .bool x.f2, .int .i64 x.f3, .int .u64 x.f4, .float .f64 x.f5, .string x.f6, .slice (some ad') x.f7.length c'] 39 (0, 0)) ∧ Below w.heap.size w wr.drew) := ⟨blk_drew HW.out.1, blk_drew HW.out.2.1, below_drew HW.out.2.2⟩
        have HC8 := Aside0.mk (Kd.C_drew HC7.out)
        have KC8 := Aside0.mk (Kd.C_drew KC7.out)
        clear h0 k0 h1 k1 h2 k2 h3 k3 h4 k4 h5 k5 h6 k6 h7 k7 HC7 KC7 g1c7 g2c7 HW
        generalize wr.drew = w3 at *
        go_wp2_with fail
        refine (HI.out y HY.out A7 c7 A7' c7' w3 HC8.out KC8.out).mono ?_
        rintro e w4 ⟨rfl, hB⟩
        have HW3 : Aside0 (w4.heap[g1]? = some (.cells #[.string x.f0, .int .i64 x.f1, .bool x.f2, .int .i64 x.f3, .int .u64 x.f4, .float .f64 x.f5, .string x.f6, .slice (some ad) x.f7.length c] 39 (0, 0)) ∧ w4.heap[g2]? = some (.cells #[.string x.f0, .int .i64 x.f1, .bool x.f2, .int .i64 x.f3, .int .u64 x.f4, .float .f64 x.f5, .string x.f6, .slice (some ad') x.f7.length c'] 39 (0, 0)) ∧ Below w.heap.size w w4) := ⟨blk_below HW2.out.1 hB, blk_below HW2.out.2.1 hB, below_step HW2.out.2.2 hB⟩
        clear hB
        go_wp2_with fail
        go_roundw
        case measure => simp [intOf]; omega
        case rel => exact ⟨i + 1, by omega, by go_num, HW3⟩
      · go_wp2_with fail
        go_ret
        exact ⟨rfl, HW.out.2.2⟩
end Go.Proofs.YtfcalbjebomgcaaGreatDoor.X

/- back at XfsPrint, XfsTree, Xfs: it answers true. -/
namespace Go.Proofs.YtfcalbjebomgcaaGreatDoor.X
open Go.RowKit Go.Proofs.YtfcalbjebomgcaaGreatDoorW.PrintWords Go.Proofs.YtfcalbjebomgcaaGreatDoorW.PrintLast Go.Proofs.YtfcalbjebomgcaaGreatDoorW.PrintMore Go.Proofs.YtfcalbjebomgcaaGreatDoor.Q
attribute [local go_sem] run_store_float

/-- What the last statement's memory holds: the two trees. -/
structure BkSt (x : Addr) (n c : Nat) (l : List S31) (w : World) (g11 g12 : Nat) (A7 : Option Addr) (c7 : Nat) (A8 : Option Addr) (c8 : Nat) (W : World) : Prop where
  b12 : W.heap[g12]? = some (.cells #[.string ⟨#[]⟩, .int .i64 8, .bool false, .int .i64 0, .int .u64 0, .float .f64 0, .string ⟨#[]⟩, .slice A8 (xfsNodes l).length c8] 43 (0, 0))
  b11 : W.heap[g11]? = some (.cells #[.string ⟨#[]⟩, .int .i64 8, .bool false, .int .i64 0, .int .u64 0, .float .f64 0, .string ⟨#[]⟩, .slice A7 (xfsKids l).length c7] 39 (0, 0))
  nodes : Kd.C k43 W A8 (xfsNodes l).length (xfsNodes l)
  cap : (xfsNodes l).length ≤ c8
  kids : Kd.C k39 W A7 (xfsKids l).length (xfsKids l)
  live : LiveAt x n c W
  bel : Below w.heap.size w W
theorem BkSt.below {x : Addr} {n c : Nat} {l : List S31} {w : World} {g11 g12 : Nat} {A7 : Option Addr} {c7 : Nat} {A8 : Option Addr} {c8 : Nat} {W W' : World} (h : BkSt x n c l w g11 g12 A7 c7 A8 c8 W) (hb : Below W.heap.size W W') : BkSt x n c l w g11 g12 A7 c7 A8 c8 W' :=
  ⟨blk_below h.b12 hb, blk_below h.b11 hb, Kd.C_below h.nodes hb, h.cap, Kd.C_below h.kids hb, h.live.below hb (Nat.le_refl _), below_step h.bel hb⟩
theorem bkS {x : Addr} {n c : Nat} {l : List S31} {w : World} {g11 g12 : Nat} {A7 : Option Addr} {c7 : Nat} {A8 : Option Addr} {c8 : Nat} {W : World} (h : BkSt x n c l w g11 g12 A7 c7 A8 c8 W) :
    (∀ j, W.cell? ⟨g12, j, none⟩ = (#[.string ⟨#[]⟩, .int .i64 8, .bool false, .int .i64 0, .int .u64 0, .float .f64 0, .string ⟨#[]⟩, .slice A8 (xfsNodes l).length c8] : Array Value)[j]?) ∧ (∀ j, W.cell? ⟨g11, j, none⟩ = (#[.string ⟨#[]⟩, .int .i64 8, .bool false, .int .i64 0, .int .u64 0, .float .f64 0, .string ⟨#[]⟩, .slice A7 (xfsKids l).length c7] : Array Value)[j]?) ∧ Aside0 (BkSt x n c l w g11 g12 A7 c7 A8 c8 W) :=
  ⟨fun j => blk_cell h.b12 j, fun j => blk_cell h.b11 j, ⟨h⟩⟩
theorem toNodeX (l : List S31) (hF : FineRows l) (A8 : Option Addr) (c8 : Nat) (W : World) (hr : Kd.C k43 W A8 (xfsNodes l).length (xfsNodes l)) (hc : (xfsNodes l).length ≤ c8) :
    Calls Tryz.prog 12 #[.agg #[.string ⟨#[]⟩, .int .i64 8, .bool false, .int .i64 0, .int .u64 0, .float .f64 0, .string ⟨#[]⟩, .slice A8 (xfsNodes l).length c8]] W fun e w' => ∃ A9 c9, e = .returned (.agg #[.string ⟨#[]⟩, .int .i64 8, .bool false, .int .i64 0, .int .u64 0, .float .f64 0, .string ⟨#[]⟩, .slice A9 (xfsKids l).length c9]) ∧ Kd.C k39 w' A9 (xfsKids l).length (xfsKids l) ∧ Below W.heap.size W w' := by
  obtain ⟨h1, h2, h3⟩ := xfs_nodes l hF
  obtain ⟨k, hk⟩ := Cv_node ⟨⟨#[]⟩, 8, false, 0, 0, (0 : Nat), ⟨#[]⟩, xfsNodes l⟩ (xfsKids l) h1 (by show (xfsNodes l).length ≤ 1000000; omega) h3
  refine (laws_toNode.calls k ⟨#[]⟩ 8 false 0 0 0 ⟨#[]⟩ A8 c8 (xfsNodes l) _ _ _ _ _ _ _ _ W hr hc hk).mono ?_
  rintro e w' ⟨v, rfl, hR, hB⟩
  obtain ⟨A9, c9, rfl, _, hC⟩ := Kd.R_reads hR
  exact ⟨A9, c9, rfl, hC, hB⟩
set_option maxHeartbeats 8000000 in
set_option maxRecDepth 100000 in
theorem back_calls (x : Addr) (n c : Nat) (l : List S31) (A : Option Addr) (cp : Nat) (w : World) (h : LiveAt x n c w) (hr : Kd.C k31 w A l.length l) (hc : l.length ≤ cp) (hw : Wf31 l) :
    Calls Tryz.prog 5 #[.slice A l.length cp, .func (.func 6) #[] #[], .func (.func 7) #[] #[], .func (.func 8) #[] #[]] w fun e w' => e = .returned (.bool true) ∧ Below w.heap.size w w' := by
  have H := Aside0.mk h
  have HR := Aside0.mk hr
  have HC := Aside0.mk hc
  have HW := Aside0.mk hw
  have hu43 := Tryz.underlying43
  have hu39 := Tryz.underlying39
  have hu22 := Tryz.underlying22
  clear h hr hc hw
  by_cases hl : (l.length : Int) > 1000
  · go_enter Tryz.func5, Tryz.ntmps5
    go_wp2
    go_ret
    exact ⟨rfl, Below.refl _ _⟩
  · have HL : Aside0 (l.length ≤ 1000) := ⟨by omega⟩
    go_enter Tryz.func5, Tryz.ntmps5
    go_wp2_with fail
    refine (xfsPrint_calls l A cp w HR.out HC.out HW.out HL.out).mono ?_
    rintro e w1 ⟨hB, rfl | ⟨hF, rfl⟩⟩
    · have HB := Aside0.mk hB
      clear hB
      go_wp2_with fail
      refine (lives_calls x n c w1 (H.out.below HB.out (Nat.le_refl _))).mono ?_
      rintro e w2 ⟨rfl, hB2⟩
      have HB2 := Aside0.mk (below_step HB.out hB2)
      clear hB2
      go_wp2_with fail
      go_ret
      exact ⟨rfl, HB2.out⟩
    · have HB := Aside0.mk hB
      have HF := Aside0.mk hF
      clear hB hF
      generalize hT : (⟨(textL l).toArray⟩ : ByteArray) = T at *
      by_cases hs : (T.size : Int) > 40000
      · go_wp2_with fail
        refine (lives_calls x n c w1 (H.out.below HB.out (Nat.le_refl _))).mono ?_
        rintro e w2 ⟨rfl, hB2⟩
        have HB2 := Aside0.mk (below_step HB.out hB2)
        clear hB2
        go_wp2_with fail
        go_ret
        exact ⟨rfl, HB2.out⟩
      · go_wp2_with fail
        refine (xfsTree_calls l A cp w1 (Kd.C_below HR.out HB.out) HC.out).mono ?_
        rintro e w2 ⟨hB2, rfl | ⟨_, A7, c7, rfl, hK⟩⟩
        · have HB2 := Aside0.mk (below_step HB.out hB2)
          clear hB2
          go_upto_region 7 with (fail)
          have HB3 := Aside0.mk (below_alloc HB2.out (.cells #[.string ⟨#[]⟩, .int .i64 0, .bool false, .int .i64 0, .int .u64 0, .float .f64 0, .string ⟨#[]⟩, .slice none 0 0] 39 (0, 0)))
          generalize w2.alloc (.cells #[.string ⟨#[]⟩, .int .i64 0, .bool false, .int .i64 0, .int .u64 0, .float .f64 0, .string ⟨#[]⟩, .slice none 0 0] 39 (0, 0)) = w3 at *
          go_wp2_with fail
          refine (lives_calls x n c w3 (H.out.below HB3.out (Nat.le_refl _))).mono ?_
          rintro e w4 ⟨rfl, hB4⟩
          have HB4 := Aside0.mk (below_step HB3.out hB4)
          clear hB4
          go_wp2_with fail
          go_ret
          exact ⟨rfl, HB4.out⟩
        · have HB2 := Aside0.mk (below_step HB.out hB2)
          have HK := Aside0.mk hK
          clear hB2 hK HB
          go_upto_region 7 with (fail)
          have HT3 : Aside0 ((w2.alloc (.cells #[.string ⟨#[]⟩, .int .i64 8, .bool false, .int .i64 0, .int .u64 0, .float .f64 0, .string ⟨#[]⟩, .slice A7 (xfsKids l).length c7] 39 (0, 0))).heap[w2.heap.size]? = some (.cells #[.string ⟨#[]⟩, .int .i64 8, .bool false, .int .i64 0, .int .u64 0, .float .f64 0, .string ⟨#[]⟩, .slice A7 (xfsKids l).length c7] 39 (0, 0)) ∧ k39.C (w2.alloc (.cells #[.string ⟨#[]⟩, .int .i64 8, .bool false, .int .i64 0, .int .u64 0, .float .f64 0, .string ⟨#[]⟩, .slice A7 (xfsKids l).length c7] 39 (0, 0))) A7 (xfsKids l).length (xfsKids l) ∧ Below w.heap.size w (w2.alloc (.cells #[.string ⟨#[]⟩, .int .i64 8, .bool false, .int .i64 0, .int .u64 0, .float .f64 0, .string ⟨#[]⟩, .slice A7 (xfsKids l).length c7] 39 (0, 0)))) := ⟨blk_new _ _, Kd.C_alloc HK.out _, below_alloc HB2.out _⟩
          clear HK HB2
          generalize w2.alloc (.cells #[.string ⟨#[]⟩, .int .i64 8, .bool false, .int .i64 0, .int .u64 0, .float .f64 0, .string ⟨#[]⟩, .slice A7 (xfsKids l).length c7] 39 (0, 0)) = w3 at *
          generalize w2.heap.size = g11 at *
          have hL3 := H.out.below HT3.out.2.2 (Nat.le_refl _)
          have hX := xfs_calls l (fun r hr => by obtain ⟨a, ha, hax⟩ := List.getElem_of_mem hr; have := HF.out.1 a ha; rw [List.getD_eq_getElem?_getD, List.getElem?_eq_getElem ha, hax] at this; exact this) HW.out HL.out w3 hL3.tab hL3.gl
          rw [hT] at hX
          replace hX := Aside0.mk hX
          replace hT := Aside0.mk hT
          clear hL3
          go_wp2_with fail
          refine hX.out.mono ?_
          rintro e w4 ⟨A8, c8, rfl, hlc, hF8, hB4⟩
          have HT4 : Aside0 (w4.heap[g11]? = some (.cells #[.string ⟨#[]⟩, .int .i64 8, .bool false, .int .i64 0, .int .u64 0, .float .f64 0, .string ⟨#[]⟩, .slice A7 (xfsKids l).length c7] 39 (0, 0)) ∧ k39.C w4 A7 (xfsKids l).length (xfsKids l) ∧ Below w.heap.size w w4) := ⟨blk_below HT3.out.1 hB4, Kd.C_below HT3.out.2.1 hB4, below_step HT3.out.2.2 hB4⟩
          have HN4 : Aside0 ((xfsNodes l).length ≤ c8 ∧ Kd.C k43 w4 A8 (xfsNodes l).length (xfsNodes l)) := ⟨hlc, Kd.F_now hF8⟩
          clear hX HT3 hlc hF8 hB4
          go_upto_region 10 with (fail)
          have HBK : Aside0 (BkSt x n c l w g11 w4.heap.size A7 c7 A8 c8 (w4.alloc (.cells #[.string ⟨#[]⟩, .int .i64 8, .bool false, .int .i64 0, .int .u64 0, .float .f64 0, .string ⟨#[]⟩, .slice A8 (xfsNodes l).length c8] 43 (0, 0)))) := ⟨⟨blk_new _ _, blk_alloc HT4.out.1 _, Kd.C_alloc HN4.out.2 _, HN4.out.1, Kd.C_alloc HT4.out.2.1 _, H.out.below (below_alloc HT4.out.2.2 _) (Nat.le_refl _), below_alloc HT4.out.2.2 _⟩⟩
          clear HT4 HN4
          generalize w4.alloc (.cells #[.string ⟨#[]⟩, .int .i64 8, .bool false, .int .i64 0, .int .u64 0, .float .f64 0, .string ⟨#[]⟩, .slice A8 (xfsNodes l).length c8] 43 (0, 0)) = w5 at *
          generalize w4.heap.size = g12 at *
          have HBK0 : Aside0 (BkSt x n c l w g11 g12 A7 c7 A8 c8 w5.drew) := ⟨HBK.out.below (below_drew (Below.refl _ _))⟩
          clear HBK
          go_region_held3 (fun W => (∀ j, W.cell? ⟨g12, j, none⟩ = (#[.string ⟨#[]⟩, .int .i64 8, .bool false, .int .i64 0, .int .u64 0, .float .f64 0, .string ⟨#[]⟩, .slice A8 (xfsNodes l).length c8] : Array Value)[j]?) ∧ (∀ j, W.cell? ⟨g11, j, none⟩ = (#[.string ⟨#[]⟩, .int .i64 8, .bool false, .int .i64 0, .int .u64 0, .float .f64 0, .string ⟨#[]⟩, .slice A7 (xfsKids l).length c7] : Array Value)[j]?) ∧ Aside0 (BkSt x n c l w g11 g12 A7 c7 A8 c8 W)) (first | exact bkS HBK0.out | exact bkS HBK6.out | exact bkS HBK7.out | exact bkS HBK8.out) (first
            | (go_at_call 12; refine (toNodeX l HF.out A8 c8 w5.drew HBK0.out.nodes HBK0.out.cap).mono ?_; rintro e w6 ⟨A9, c9, rfl, hC9, hB6⟩; have HBK6 := Aside0.mk (HBK0.out.below hB6); have HC9 := Aside0.mk hC9; clear hC9 hB6)
            | (go_at_call 11; refine (sameNode_calls _ (recN ⟨#[]⟩ (xfsKids l)) (Nat.le_refl _) A9 c9 A7 c7 w6 HC9.out HBK6.out.kids).mono ?_; rintro e w7 ⟨rfl, hB7⟩; have HBK7 := Aside0.mk (HBK6.out.below hB7); clear hB7)
            | (go_at_call 10; refine (lives_calls x n c w7 HBK7.out.live).mono ?_; rintro e w8 ⟨rfl, hB8⟩; have HBK8 := Aside0.mk (HBK7.out.below hB8); clear hB8))
          go_wp2_with fail
          go_ret
          exact ⟨rfl, HBK8.out.bel⟩
set_option maxHeartbeats 8000000 in
set_option maxRecDepth 100000 in
/-- FnXfsBack answers true at every list of rows. -/
theorem fnXfsBack_calls (x : Addr) (n c : Nat) (l : List S31) (A : Option Addr) (cp : Nat) (w : World) (h : LiveAt x n c w) (hr : Kd.C k31 w A l.length l) (hc : l.length ≤ cp) (hw : Wf31 l) :
    Calls Tryz.prog 3 #[.slice A l.length cp] w fun e w' => e = .returned (.bool true) ∧ Below w.heap.size w w' := by
  obtain ⟨k, b, hk⟩ := fits5_f l
  have H := Aside0.mk h
  have HR := Aside0.mk hr
  have HC := Aside0.mk hc
  have HW := Aside0.mk hw
  have HK := Aside0.mk hk
  clear h hr hc hw hk
  go_enter Tryz.func3, Tryz.ntmps3
  go_wp2_with fail
  refine (laws_zzFits5.calls k A cp l b w HR.out HC.out HK.out).mono ?_
  rintro e w1 ⟨rfl, hB⟩
  have HB := Aside0.mk hB
  clear hB
  cases b
  · go_wp2_with fail
    go_ret
    exact ⟨rfl, HB.out⟩
  · go_wp2_with fail
    refine (back_calls x n c l A cp w1 (H.out.below HB.out (Nat.le_refl _)) (Kd.C_below HR.out HB.out) HC.out HW.out).mono ?_
    rintro e w2 ⟨rfl, hB2⟩
    have HB2 := Aside0.mk (below_step HB.out hB2)
    clear hB2
    go_wp2_with fail
    go_ret
    exact ⟨rfl, HB2.out⟩
end Go.Proofs.YtfcalbjebomgcaaGreatDoor.X
