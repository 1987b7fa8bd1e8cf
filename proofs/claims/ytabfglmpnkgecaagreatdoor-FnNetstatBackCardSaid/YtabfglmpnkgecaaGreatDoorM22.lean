/- back at NetstatPrint, NetstatTree, Netstat: it answers true. -/
import Derived.Test.YtabfglmpnkgecaaGreatDoorM20
import Derived.Test.YtabfglmpnkgecaaGreatDoorM17
import Derived.Test.YtabfglmpnkgecaaGreatDoorM21
import Derived.Test.YtabfglmpnkgecaaGreatDoorM11
import Derived.Deep.Strs
import Derived.Test.YtabfglmpnkgecaaGreatDoorM16
import Derived.Test.YtabfglmpnkgecaaGreatDoorM07
import Derived.OpenShut
import Derived.Test.YtabfglmpnkgecaaGreatDoorRows
import Derived.Lib.LaidU8
import Derived.MakeChecks
import Derived.WalkKit
import Derived.ProofKit
import Derived.ChangeOld
import Derived.Below
import Derived.Carry
import Derived.SizedLaws
import Derived.Lay
set_option linter.unusedVariables false
set_option linter.unusedSimpArgs false
namespace Go.Proofs.YtabfglmpnkgecaaGreatDoor.X
open Go.RowKit Go.Proofs.YtabfglmpnkgecaaGreatDoorW.PrintWords Go.Proofs.YtabfglmpnkgecaaGreatDoorW.PrintLast Go.Proofs.YtabfglmpnkgecaaGreatDoorW.PrintMore Go.Proofs.YtabfglmpnkgecaaGreatDoor.Q
attribute [local go_sem] run_store_float

/-- What the last statement's memory holds: the two trees. -/
structure BkSt (x : Addr) (n c : Nat) (l : List S31) (w : World) (g11 g12 : Nat) (A7 : Option Addr) (c7 : Nat) (A8 : Option Addr) (c8 : Nat) (W : World) : Prop where
  b12 : W.heap[g12]? = some (.cells #[.string ⟨#[]⟩, .int .i64 8, .bool false, .int .i64 0, .int .u64 0, .float .f64 0, .string ⟨#[]⟩, .slice A8 (netKids (Mof l)).length c8] 43 (0, 0))
  b11 : W.heap[g11]? = some (.cells #[.string ⟨#[]⟩, .int .i64 8, .bool false, .int .i64 0, .int .u64 0, .float .f64 0, .string ⟨#[]⟩, .slice A7 (treeKids l).length c7] 39 (0, 0))
  nodes : Kd.C k43 W A8 (netKids (Mof l)).length (netKids (Mof l))
  cap : (netKids (Mof l)).length ≤ c8
  kids : Kd.C k39 W A7 (treeKids l).length (treeKids l)
  live : LiveAt x n c W
  bel : Below w.heap.size w W
theorem BkSt.below {x : Addr} {n c : Nat} {l : List S31} {w : World} {g11 g12 : Nat} {A7 : Option Addr} {c7 : Nat} {A8 : Option Addr} {c8 : Nat} {W W' : World} (h : BkSt x n c l w g11 g12 A7 c7 A8 c8 W) (hb : Below W.heap.size W W') : BkSt x n c l w g11 g12 A7 c7 A8 c8 W' :=
  ⟨blk_below h.b12 hb, blk_below h.b11 hb, Kd.C_below h.nodes hb, h.cap, Kd.C_below h.kids hb, h.live.below hb (Nat.le_refl _), below_step h.bel hb⟩
theorem bkS {x : Addr} {n c : Nat} {l : List S31} {w : World} {g11 g12 : Nat} {A7 : Option Addr} {c7 : Nat} {A8 : Option Addr} {c8 : Nat} {W : World} (h : BkSt x n c l w g11 g12 A7 c7 A8 c8 W) :
    (∀ j, W.cell? ⟨g12, j, none⟩ = (#[.string ⟨#[]⟩, .int .i64 8, .bool false, .int .i64 0, .int .u64 0, .float .f64 0, .string ⟨#[]⟩, .slice A8 (netKids (Mof l)).length c8] : Array Value)[j]?) ∧ (∀ j, W.cell? ⟨g11, j, none⟩ = (#[.string ⟨#[]⟩, .int .i64 8, .bool false, .int .i64 0, .int .u64 0, .float .f64 0, .string ⟨#[]⟩, .slice A7 (treeKids l).length c7] : Array Value)[j]?) ∧ Aside0 (BkSt x n c l w g11 g12 A7 c7 A8 c8 W) :=
  ⟨fun j => blk_cell h.b12 j, fun j => blk_cell h.b11 j, ⟨h⟩⟩
theorem toNodeX (l : List S31) (hF : FineRows l) (A8 : Option Addr) (c8 : Nat) (W : World) (hr : Kd.C k43 W A8 (netKids (Mof l)).length (netKids (Mof l))) (hc : (netKids (Mof l)).length ≤ c8) :
    Calls Tryz.prog 12 #[.agg #[.string ⟨#[]⟩, .int .i64 8, .bool false, .int .i64 0, .int .u64 0, .float .f64 0, .string ⟨#[]⟩, .slice A8 (netKids (Mof l)).length c8]] W fun e w' => ∃ A9 c9, e = .returned (.agg #[.string ⟨#[]⟩, .int .i64 8, .bool false, .int .i64 0, .int .u64 0, .float .f64 0, .string ⟨#[]⟩, .slice A9 (treeKids l).length c9]) ∧ Kd.C k39 w' A9 (treeKids l).length (treeKids l) ∧ Below W.heap.size W w' := by
  obtain ⟨h1, h3⟩ := net_nodes l
  obtain ⟨k, hk⟩ := Cv_node ⟨⟨#[]⟩, 8, false, 0, 0, (0 : Nat), ⟨#[]⟩, netKids (Mof l)⟩ (treeKids l) h1 (by show 3 ≤ 1000000; decide) h3
  refine (laws_toNode.calls k ⟨#[]⟩ 8 false 0 0 0 ⟨#[]⟩ A8 c8 (netKids (Mof l)) _ _ _ _ _ _ _ _ W hr hc hk).mono ?_
  rintro e w' ⟨v, rfl, hR, hB⟩
  obtain ⟨A9, c9, rfl, _, hC⟩ := Kd.R_reads hR
  exact ⟨A9, c9, rfl, hC, hB⟩
set_option maxHeartbeats 8000000 in
set_option maxRecDepth 100000 in
theorem back_calls (x : Addr) (n c : Nat) (l : List S31) (A : Option Addr) (cp : Nat) (w : World) (h : LiveAt x n c w) (hr : Kd.C k31 w A l.length l) (hc : l.length ≤ cp) (hv : VarsW w) :
    Calls Tryz.prog 5 #[.slice A l.length cp, .func (.func 6) #[] #[], .func (.func 7) #[] #[], .func (.func 8) #[] #[]] w fun e w' => e = .returned (.bool true) ∧ Below w.heap.size w w' := by
  have H := Aside0.mk h
  have HR := Aside0.mk hr
  have HC := Aside0.mk hc
  have HW := Aside0.mk hv
  have hu43 := Tryz.underlying43
  have hu39 := Tryz.underlying39
  have hu22 := Tryz.underlying22
  clear h hr hc hv
  by_cases hl : (l.length : Int) > 1000
  · go_enter Tryz.func5, Tryz.ntmps5
    go_wp2
    go_ret
    exact ⟨rfl, Below.refl _ _⟩
  · have HL : Aside0 (l.length ≤ 1000) := ⟨by omega⟩
    go_enter Tryz.func5, Tryz.ntmps5
    go_wp2_with fail
    refine (print_calls l A cp w HR.out HC.out HL.out).mono ?_
    rintro e w1 ⟨hB, rfl | ⟨hF, rfl⟩⟩
    · have HB := Aside0.mk hB
      clear hB
      go_wp2_with fail
      refine (lives_calls x n c w1 (H.out.below HB.out (Nat.le_refl _))).mono ?_
      rintro e w2 ⟨rfl, hB2⟩
      have HB2 := Aside0.mk (below_step HB.out hB2)
      clear hB2
      go_wp2_with fail
      go_ret
      exact ⟨rfl, HB2.out⟩
    · have HB := Aside0.mk hB
      have HF := Aside0.mk hF
      clear hB hF
      generalize hT : (⟨(textL l).toArray⟩ : ByteArray) = T at *
      by_cases hs : (T.size : Int) > 40000
      · go_wp2_with fail
        refine (lives_calls x n c w1 (H.out.below HB.out (Nat.le_refl _))).mono ?_
        rintro e w2 ⟨rfl, hB2⟩
        have HB2 := Aside0.mk (below_step HB.out hB2)
        clear hB2
        go_wp2_with fail
        go_ret
        exact ⟨rfl, HB2.out⟩
      · go_wp2_with fail
        refine (tree_calls l A cp w1 (Kd.C_below HR.out HB.out) HC.out).mono ?_
        rintro e w2 ⟨hB2, rfl | ⟨_, A7, c7, rfl, hK⟩⟩
        · have HB2 := Aside0.mk (below_step HB.out hB2)
          clear hB2
          go_upto_region 7 with (fail)
          have HB3 := Aside0.mk (below_alloc HB2.out (.cells #[.string ⟨#[]⟩, .int .i64 0, .bool false, .int .i64 0, .int .u64 0, .float .f64 0, .string ⟨#[]⟩, .slice none 0 0] 39 (0, 0)))
          generalize w2.alloc (.cells #[.string ⟨#[]⟩, .int .i64 0, .bool false, .int .i64 0, .int .u64 0, .float .f64 0, .string ⟨#[]⟩, .slice none 0 0] 39 (0, 0)) = w3 at *
          go_wp2_with fail
          refine (lives_calls x n c w3 (H.out.below HB3.out (Nat.le_refl _))).mono ?_
          rintro e w4 ⟨rfl, hB4⟩
          have HB4 := Aside0.mk (below_step HB3.out hB4)
          clear hB4
          go_wp2_with fail
          go_ret
          exact ⟨rfl, HB4.out⟩
        · have HB2 := Aside0.mk (below_step HB.out hB2)
          have HK := Aside0.mk hK
          clear hB2 hK HB
          go_upto_region 7 with (fail)
          have HT3 : Aside0 ((w2.alloc (.cells #[.string ⟨#[]⟩, .int .i64 8, .bool false, .int .i64 0, .int .u64 0, .float .f64 0, .string ⟨#[]⟩, .slice A7 (treeKids l).length c7] 39 (0, 0))).heap[w2.heap.size]? = some (.cells #[.string ⟨#[]⟩, .int .i64 8, .bool false, .int .i64 0, .int .u64 0, .float .f64 0, .string ⟨#[]⟩, .slice A7 (treeKids l).length c7] 39 (0, 0)) ∧ k39.C (w2.alloc (.cells #[.string ⟨#[]⟩, .int .i64 8, .bool false, .int .i64 0, .int .u64 0, .float .f64 0, .string ⟨#[]⟩, .slice A7 (treeKids l).length c7] 39 (0, 0))) A7 (treeKids l).length (treeKids l) ∧ Below w.heap.size w (w2.alloc (.cells #[.string ⟨#[]⟩, .int .i64 8, .bool false, .int .i64 0, .int .u64 0, .float .f64 0, .string ⟨#[]⟩, .slice A7 (treeKids l).length c7] 39 (0, 0)))) := ⟨blk_new _ _, Kd.C_alloc HK.out _, below_alloc HB2.out _⟩
          clear HK HB2
          generalize w2.alloc (.cells #[.string ⟨#[]⟩, .int .i64 8, .bool false, .int .i64 0, .int .u64 0, .float .f64 0, .string ⟨#[]⟩, .slice A7 (treeKids l).length c7] 39 (0, 0)) = w3 at *
          generalize w2.heap.size = g11 at *
          have hL3 := H.out.below HT3.out.2.2 (Nat.le_refl _)
          have hX := netstat_calls l HF.out w3 (vars_low HW.out HT3.out.2.2 (World.block_lt_of_cell? w _ HW.out.2.2.1))
          rw [hT] at hX
          replace hX := Aside0.mk hX
          replace hT := Aside0.mk hT
          clear hL3
          go_wp2_with fail
          refine hX.out.mono ?_
          rintro e w4 ⟨A8, c8, rfl, hlc, hF8, hB4⟩
          have HT4 : Aside0 (w4.heap[g11]? = some (.cells #[.string ⟨#[]⟩, .int .i64 8, .bool false, .int .i64 0, .int .u64 0, .float .f64 0, .string ⟨#[]⟩, .slice A7 (treeKids l).length c7] 39 (0, 0)) ∧ k39.C w4 A7 (treeKids l).length (treeKids l) ∧ Below w.heap.size w w4) := ⟨blk_below HT3.out.1 hB4, Kd.C_below HT3.out.2.1 hB4, below_step HT3.out.2.2 hB4⟩
          have HN4 : Aside0 ((netKids (Mof l)).length ≤ c8 ∧ Kd.C k43 w4 A8 (netKids (Mof l)).length (netKids (Mof l))) := ⟨hlc, Kd.F_now hF8⟩
          clear hX HT3 hlc hF8 hB4
          go_upto_region 10 with (fail)
          have HBK : Aside0 (BkSt x n c l w g11 w4.heap.size A7 c7 A8 c8 (w4.alloc (.cells #[.string ⟨#[]⟩, .int .i64 8, .bool false, .int .i64 0, .int .u64 0, .float .f64 0, .string ⟨#[]⟩, .slice A8 (netKids (Mof l)).length c8] 43 (0, 0)))) := ⟨⟨blk_new _ _, blk_alloc HT4.out.1 _, Kd.C_alloc HN4.out.2 _, HN4.out.1, Kd.C_alloc HT4.out.2.1 _, H.out.below (below_alloc HT4.out.2.2 _) (Nat.le_refl _), below_alloc HT4.out.2.2 _⟩⟩
          clear HT4 HN4
          generalize w4.alloc (.cells #[.string ⟨#[]⟩, .int .i64 8, .bool false, .int .i64 0, .int .u64 0, .float .f64 0, .string ⟨#[]⟩, .slice A8 (netKids (Mof l)).length c8] 43 (0, 0)) = w5 at *
          generalize w4.heap.size = g12 at *
          have HBK0 : Aside0 (BkSt x n c l w g11 g12 A7 c7 A8 c8 w5.drew) := ⟨HBK.out.below (below_drew (Below.refl _ _))⟩
          clear HBK
          go_region_held3 (fun W => (∀ j, W.cell? ⟨g12, j, none⟩ = (#[.string ⟨#[]⟩, .int .i64 8, .bool false, .int .i64 0, .int .u64 0, .float .f64 0, .string ⟨#[]⟩, .slice A8 (netKids (Mof l)).length c8] : Array Value)[j]?) ∧ (∀ j, W.cell? ⟨g11, j, none⟩ = (#[.string ⟨#[]⟩, .int .i64 8, .bool false, .int .i64 0, .int .u64 0, .float .f64 0, .string ⟨#[]⟩, .slice A7 (treeKids l).length c7] : Array Value)[j]?) ∧ Aside0 (BkSt x n c l w g11 g12 A7 c7 A8 c8 W)) (first | exact bkS HBK0.out | exact bkS HBK6.out | exact bkS HBK7.out | exact bkS HBK8.out) (first
            | (go_at_call 12; refine (toNodeX l HF.out A8 c8 w5.drew HBK0.out.nodes HBK0.out.cap).mono ?_; rintro e w6 ⟨A9, c9, rfl, hC9, hB6⟩; have HBK6 := Aside0.mk (HBK0.out.below hB6); have HC9 := Aside0.mk hC9; clear hC9 hB6)
            | (go_at_call 11; refine (sameNode_calls _ (recN ⟨#[]⟩ (treeKids l)) (Nat.le_refl _) A9 c9 A7 c7 w6 HC9.out HBK6.out.kids).mono ?_; rintro e w7 ⟨rfl, hB7⟩; have HBK7 := Aside0.mk (HBK6.out.below hB7); clear hB7)
            | (go_at_call 10; refine (lives_calls x n c w7 HBK7.out.live).mono ?_; rintro e w8 ⟨rfl, hB8⟩; have HBK8 := Aside0.mk (HBK7.out.below hB8); clear hB8))
          go_wp2_with fail
          go_ret
          exact ⟨rfl, HBK8.out.bel⟩
set_option maxHeartbeats 8000000 in
set_option maxRecDepth 100000 in
/-- FnNetstatBack answers true at every list of rows. -/
theorem fnNetstatBack_calls (x : Addr) (n c : Nat) (l : List S31) (A : Option Addr) (cp : Nat) (w : World) (h : LiveAt x n c w) (hr : Kd.C k31 w A l.length l) (hc : l.length ≤ cp) (hv : VarsW w) :
    Calls Tryz.prog 3 #[.slice A l.length cp] w fun e w' => e = .returned (.bool true) ∧ Below w.heap.size w w' := by
  obtain ⟨k, b, hk⟩ := fits5_f l
  have H := Aside0.mk h
  have HR := Aside0.mk hr
  have HC := Aside0.mk hc
  have HW := Aside0.mk hv
  have HK := Aside0.mk hk
  clear h hr hc hv hk
  go_enter Tryz.func3, Tryz.ntmps3
  go_wp2_with fail
  refine (laws_zzFits5.calls k A cp l b w HR.out HC.out HK.out).mono ?_
  rintro e w1 ⟨rfl, hB⟩
  have HB := Aside0.mk hB
  clear hB
  cases b
  · go_wp2_with fail
    go_ret
    exact ⟨rfl, HB.out⟩
  · go_wp2_with fail
    refine (back_calls x n c l A cp w1 (H.out.below HB.out (Nat.le_refl _)) (Kd.C_below HR.out HB.out) HC.out (vars_low HW.out HB.out (World.block_lt_of_cell? w _ HW.out.2.2.1))).mono ?_
    rintro e w2 ⟨rfl, hB2⟩
    have HB2 := Aside0.mk (below_step HB.out hB2)
    clear hB2
    go_wp2_with fail
    go_ret
    exact ⟨rfl, HB2.out⟩
end Go.Proofs.YtabfglmpnkgecaaGreatDoor.X

/- J1. What the row's reading says of the slice of groups. -/
namespace Go.Proofs.YtabfglmpnkgecaaGreatDoor.X
open Go.RowKit Go.Proofs.YtabfglmpnkgecaaGreatDoorW.PrintWords Go.Proofs.YtabfglmpnkgecaaGreatDoorW.PrintLast Go.Proofs.YtabfglmpnkgecaaGreatDoorW.PrintMore Go.Proofs.YtabfglmpnkgecaaGreatDoor.Q Go.Deep Go.ChangeShapes Go.WideShapes
set_option maxRecDepth 100000

/-- The numbers of rows are of 64 bits. -/
def Wf31 (l : List S31) : Prop := ∀ r ∈ l, ∀ n ∈ r.f1, 0 ≤ n ∧ n < 18446744073709551616
section
variable {H : Type} {enc : TypeId × Value → H} {W : World} {spare : Nat → Bool} {held : Bool}

theorem c35 : Tryz.prog.cellsOf 35 = 1 := by kernel_rfl
theorem c9 : Tryz.prog.cellsOf 9 = 1 := by kernel_rfl
theorem c28 : Tryz.prog.cellsOf 28 = 1 := by kernel_rfl
theorem c29 : Tryz.prog.cellsOf 29 = 1 := by kernel_rfl
theorem c31 : Tryz.prog.cellsOf 31 = 3 := by kernel_rfl

/-- A slice of u64. -/
theorem ints_open {fuel : Nat} {cs : List Value} {x : DataW H × List MemPlace} (h : DataW.trod enc Tryz.prog W 0 spare held fuel 28 cs = some x) :
    ∃ (A : Option Addr) (c : Nat) (l : List Int), cs = [.slice A l.length c] ∧ l.length ≤ c ∧ (Kd.int .u64).C W A l.length l ∧ ∀ n ∈ l, 0 ≤ n ∧ n < 18446744073709551616 := by
  rcases open_ints Tryz.underlying28 Tryz.underlying35 c35 h with ⟨rfl, _⟩ | ⟨a, len, cap, zs, rfl, _, hl, hm, hz, _, hc, hwf⟩
  · exact ⟨none, 0, [], rfl, Nat.le_refl _, ⟨rfl, by simp, fun h => absurd h (by simp)⟩, fun n hn => by cases hn⟩
  · have hlz : len ≤ zs.length := by rw [hz]; split <;> omega
    have hle : (zs.take len).length = len := by rw [List.length_take]; omega
    refine ⟨some a, cap, zs.take len, by rw [hle], by rw [hle]; exact hl, ⟨rfl, by rw [hle]; simp only [maxLen] at hm; omega, fun _ => ⟨a, rfl, fun j p hj => ⟨[.int .u64 p], rfl, rfl, fun i u hu => ?_⟩⟩⟩, fun n hn => ?_⟩
    · have hj2 : j < len := by
        have := (List.getElem?_eq_some_iff.1 hj).1
        omega
      rw [List.getElem?_take_of_lt hj2] at hj
      cases i with
      | zero =>
        cases hu
        have := hc j (by omega)
        rw [List.getD_eq_getElem?_getD, hj] at this
        show W.cell? (a.add (j * 1 + 0)) = _
        rw [Nat.mul_one, Nat.add_zero, this]
        rfl
      | succ i => simp at hu
    · have := hwf n (List.mem_of_mem_take hn)
      have this : IntKind.u64.min ≤ n ∧ n ≤ IntKind.u64.max := by simpa [Lit.wf] using this
      have h1 : IntKind.u64.min = 0 := by decide
      have h2 : IntKind.u64.max = 18446744073709551615 := by decide
      rw [h1, h2] at this
      omega

/-- A slice of strings. -/
theorem strs_open {fuel : Nat} {cs : List Value} {x : DataW H × List MemPlace} (h : DataW.trod enc Tryz.prog W 0 spare held fuel 29 cs = some x) :
    ∃ (A : Option Addr) (c : Nat) (l : List ByteArray), cs = [.slice A l.length c] ∧ l.length ≤ c ∧ Kd.string.C W A l.length l := by
  rcases open_strs Tryz.underlying29 Tryz.underlying9 c9 h with ⟨rfl, _⟩ | ⟨a, len, cap, m, S, rfl, _, hl, hm, hz, _, hc⟩
  · exact ⟨none, 0, [], rfl, Nat.le_refl _, ⟨rfl, by simp, fun h => absurd h (by simp)⟩⟩
  · have hlz : len ≤ m := by rw [hz]; split <;> omega
    have hle : ((List.range len).map S).length = len := by simp
    refine ⟨some a, cap, (List.range len).map S, by rw [hle], by rw [hle]; exact hl, ⟨rfl, by rw [hle]; simp only [maxLen] at hm; omega, fun _ => ⟨a, rfl, fun j p hj => ⟨[.string p], rfl, rfl, fun i u hu => ?_⟩⟩⟩⟩
    have hj2 : j < len := by
      have := (List.getElem?_eq_some_iff.1 hj).1
      omega
    have hp : S j = p := by simpa [hj2] using hj
    cases i with
    | zero =>
      cases hu
      show W.cell? (a.add (j * 1 + 0)) = _
      rw [Nat.mul_one, Nat.add_zero, (hc j (by omega)).1, hp]
    | succ i => simp at hu

instance : Inhabited S31 := ⟨z31⟩

/-- THE OPENING: the argument, as the row reads it. -/
theorem rows_open {v : Value} {d : DataW H} {p : List MemPlace} {base : Nat} (hv : Value.okWide Tryz.prog W .any base 22 v)
    (h : DataW.Trod enc Tryz.prog W 0 spare held 22 v d p) :
    ∃ (A : Option Addr) (cp : Nat) (l : List S31), v = .slice A l.length cp ∧ l.length ≤ cp ∧ Kd.C k31 W A l.length l ∧ Wf31 l := by
  obtain ⟨a0, len0, cap0, rfl⟩ := okWide_slice Tryz.underlying22 hv
  obtain ⟨fuel, h⟩ := h
  change DataW.trod enc Tryz.prog W 0 spare held fuel 22 [.slice a0 len0 cap0] = some (d, p) at h
  rcases open_slice Tryz.underlying22 h with ⟨e, _⟩ | ⟨a, len, cap, m, n, D, Pl, e, _, hl, hm, hmm, _, hx⟩
  · cases e
    exact ⟨none, 0, [], rfl, Nat.le_refl _, ⟨rfl, by simp, fun h => absurd h (by simp)⟩, fun n hn => by cases hn⟩
  · cases e
    have hlm : len0 ≤ m := by rw [hmm]; split <;> omega
    obtain ⟨g, hg⟩ := choose_lt (α := S31) (n := len0) (p := fun i x => ∃ cs, cs.length = 3 ∧ k31.K W x cs ∧ (∀ n ∈ x.f1, 0 ≤ n ∧ n < 18446744073709551616) ∧ ∀ j u, cs[j]? = some u → W.cell? (a.add (i * 3 + j)) = some u) (fun i hi => by
      obtain ⟨cs, h1, h2⟩ := hx i (by omega)
      rw [c31] at h1
      obtain ⟨_, hlen, hcell⟩ := World.cells?_some h1
      obtain ⟨y0, y1, y2, n', _, _, t0, t1, t2⟩ := trod_struct3 Tryz.underlying31 h2
      obtain ⟨v0, v1, v2, rfl⟩ : ∃ v0 v1 v2, cs = [v0, v1, v2] := by
        match cs, hlen with
        | [v0, v1, v2], _ => exact ⟨v0, v1, v2, rfl⟩
      change DataW.trod _ _ _ _ _ _ _ 9 (([v0, v1, v2].drop 0).take (Tryz.prog.cellsOf 9)) = some y0 at t0
      change DataW.trod _ _ _ _ _ _ _ 28 (([v0, v1, v2].drop 1).take (Tryz.prog.cellsOf 28)) = some y1 at t1
      change DataW.trod _ _ _ _ _ _ _ 29 (([v0, v1, v2].drop 2).take (Tryz.prog.cellsOf 29)) = some y2 at t2
      rw [c9] at t0
      rw [c28] at t1
      rw [c29] at t2
      obtain ⟨s, e0, _⟩ := DataW.trod_string Tryz.underlying9 t0
      obtain ⟨A1, c1, l1, e1, hl1, hC1, hw1⟩ := ints_open t1
      obtain ⟨A2, c2, l2, e2, hl2, hC2⟩ := strs_open t2
      have e0' : v0 = .string s := by simpa using e0
      have e1' : v1 = .slice A1 l1.length c1 := by simpa using e1
      have e2' : v2 = .slice A2 l2.length c2 := by simpa using e2
      subst e0'; subst e1'; subst e2'
      refine ⟨⟨s, l1, l2⟩, _, rfl, k31_mk W ⟨s, l1, l2⟩ hl1 hC1 hl2 hC2, hw1, fun j u hu => ?_⟩
      have hj : j < 3 := (List.getElem?_eq_some_iff.1 hu).1
      have := hcell j hj
      rw [hu, Deep.add_add] at this
      exact this)
    have hle : ((List.range len0).map g).length = len0 := by simp
    refine ⟨some a, cap0, (List.range len0).map g, by rw [hle], by rw [hle]; exact hl, ⟨rfl, by rw [hle]; simp only [maxLen] at hm; omega, fun _ => ⟨a, rfl, fun j p hj => ?_⟩⟩, fun r hr => ?_⟩
    · have hj2 : j < len0 := by
        have := (List.getElem?_eq_some_iff.1 hj).1
        omega
      have hp : g j = p := by simpa [hj2] using hj
      subst hp
      obtain ⟨cs, h1, h2, _, h4⟩ := hg j hj2
      exact ⟨cs, h1, h2, h4⟩
    · obtain ⟨i, hi, rfl⟩ := List.mem_map.1 hr
      obtain ⟨cs, _, _, h3, _⟩ := hg i (List.mem_range.1 hi)
      exact h3
end
end Go.Proofs.YtabfglmpnkgecaaGreatDoor.X

/- J2. What the row's list of variables says of the world. -/
namespace Go.Proofs.YtabfglmpnkgecaaGreatDoor.X
open Go.RowKit Go.Deep Go.Lib Go.ChangeShapes
set_option maxRecDepth 100000

theorem n6 : Tryz.prog.globalNamed "internal/strconv.optimize" = some 6 := by kernel_rfl
theorem n7 : Tryz.prog.globalNamed "internal/strconv.float64info" = some 7 := by kernel_rfl
theorem n10 : Tryz.prog.globalNamed "internal/strconv.float64pow10" = some 10 := by kernel_rfl
theorem n11 : Tryz.prog.globalNamed "internal/strconv.pow10Tab" = some 11 := by kernel_rfl
theorem y11 : (Tryz.prog.globals[11]?).map (·.type) = some 206 := by kernel_rfl
theorem c205 : Tryz.prog.cellsOf 205 = 2 := by kernel_rfl
theorem c35' : Tryz.prog.cellsOf 35 = 1 := by kernel_rfl
theorem c206 : Tryz.prog.cellsOf 206 = 1392 := by kernel_rfl
theorem row348 : Go.Pinned.pow10Rows[348]? = some (9223372036854775808, 0) := by kernel_rfl
theorem nsp : Tryz.prog.globalNamed "strings.asciiSpace" = some 1 := by kernel_rfl
theorem y6 : (Tryz.prog.globals[6]?).map (·.type) = some 4 := by kernel_rfl
theorem y7 : (Tryz.prog.globals[7]?).map (·.type) = some 152 := by kernel_rfl
theorem y10 : (Tryz.prog.globals[10]?).map (·.type) = some 119 := by kernel_rfl
theorem ysp : (Tryz.prog.globals[1]?).map (·.type) = some 127 := by kernel_rfl
theorem c127 : Tryz.prog.cellsOf 127 = 256 := by kernel_rfl
theorem c5 : Tryz.prog.cellsOf 5 = 1 := by kernel_rfl
theorem c4 : Tryz.prog.cellsOf 4 = 1 := by kernel_rfl
theorem c36 : Tryz.prog.cellsOf 36 = 1 := by kernel_rfl
theorem tabEq : (Rows.laid_strings_asciiSpace : DataW Unit) = Lib.tabData .u8 Lib.asciiSpaceTab := by kernel_rfl

theorem float_open {H : Type} {enc : TypeId × Value → H} {W : World} {base : Nat} {sp : Nat → Bool} {held : Bool} {fuel : Nat} {v : Value} {x : DataW H × List MemPlace}
    (h : DataW.trod enc Tryz.prog W base sp held fuel 36 [v] = some x) : ∃ b, v = .float .f64 b ∧ x = (.lit (.float .f64 b), []) := by
  cases fuel with
  | zero => simp [DataW.trod] at h
  | succ n =>
    unfold DataW.trod at h
    rw [Tryz.underlying36] at h
    split at h <;> simp_all

theorem block_lt {W : World} {a : Addr} {v : Value} (h : W.cell? a = some v) : a.block < W.heap.size := by
  rcases Nat.lt_or_ge a.block W.heap.size with h1 | h1
  · exact h1
  · unfold World.cell? at h
    rw [Array.getElem?_eq_none h1] at h
    simp at h

/-- The table's row 348. -/
theorem tab_open {H : Type} {enc : TypeId × Value → H} {W : World} {base : Nat} {sp : Nat → Bool} {held : Bool} {fuel : Nat} {cs : List Value} {pl : List MemPlace}
    (h : DataW.trod enc Tryz.prog W base sp held fuel 206 cs = some (.agg (Go.Pinned.pow10Rows.map fun x => .agg [.lit (.int .u64 x.1), .lit (.int .u64 x.2)]), pl)) : cs[696]? = some (.int .u64 9223372036854775808) ∧ cs[697]? = some (.int .u64 0) := by
  obtain ⟨xs, m, _, hx, hlen, hn, hat⟩ := DataW.trod_array Tryz.underlying206 h
  have h1 := congrArg Prod.fst hx
  simp only [DataW.agg.injEq] at h1
  have h2 := congrArg (fun l : List (DataW H) => l[348]?) h1
  simp only [List.getElem?_map, row348, Option.map_some] at h2
  have h3 := hat 348 (by omega)
  cases hq : xs[348]? with
  | none => rw [hq] at h2; cases h2
  | some y =>
    rw [hq] at h2 h3
    simp only [Option.map_some, Option.some.injEq] at h2
    obtain ⟨y0, y1, m2, x2, p2, k0, k1⟩ := trod_struct2 Tryz.underlying205 h3
    change DataW.trod _ _ _ _ _ _ _ 35 _ = some y0 at k0
    change DataW.trod _ _ _ _ _ _ _ 35 _ = some y1 at k1
    obtain ⟨z0, e0, w0, _⟩ := DataW.trod_int Tryz.underlying35 k0
    obtain ⟨z1, e1, w1, _⟩ := DataW.trod_int Tryz.underlying35 k1
    rw [x2, w0, w1] at h2
    simp only [DataW.agg.injEq, List.cons.injEq, DataW.lit.injEq, Lit.int.injEq, true_and, and_true] at h2
    rw [c205] at e0 e1
    have f0 := congrArg (fun l : List Value => l[0]?) e0
    have f1 := congrArg (fun l : List Value => l[0]?) e1
    simp [List.getElem?_take, List.getElem?_drop, c35'] at f0 f1
    refine ⟨?_, ?_⟩
    · rw [f0, ← h2.1]; rfl
    · rw [f1, ← h2.2]; rfl
/-- WHAT THE ROW's LIST GIVES. -/
theorem live_of_laid {W : World} (h : laidMetH Tryz.prog Rows.fnNetstatBackRow.laid W) : ∃ x n c, LiveAt x n c W ∧ VarsW W := by
  rw [Go.MakeChecks.laidMetH_plain _ _ _ (by kernel_rfl)] at h
  obtain ⟨g6, t6, cs6, f6, p6, a6, b6, v6, d6⟩ := laidMet.reads h (show ("internal/strconv.optimize", Rows.laid_internal_strconv_optimize) ∈ Rows.fnNetstatBackRow.laid by simp [Rows.fnNetstatBackRow])
  obtain ⟨g7, t7, cs7, f7, p7, a7, b7, v7, d7⟩ := laidMet.reads h (show ("internal/strconv.float64info", Rows.laid_internal_strconv_float64info) ∈ Rows.fnNetstatBackRow.laid by simp [Rows.fnNetstatBackRow])
  obtain ⟨g10, t10, cs10, f10, p10, a10, b10, v10, d10⟩ := laidMet.reads h (show ("internal/strconv.float64pow10", Rows.laid_internal_strconv_float64pow10) ∈ Rows.fnNetstatBackRow.laid by simp [Rows.fnNetstatBackRow])
  obtain ⟨gs, ts, css, fs, ps, ags, bs, vs, ds⟩ := laidMet.reads h (show ("strings.asciiSpace", Rows.laid_strings_asciiSpace) ∈ Rows.fnNetstatBackRow.laid by simp [Rows.fnNetstatBackRow])
  obtain rfl := Option.some.inj (n6.symm.trans a6)
  obtain rfl := Option.some.inj (n7.symm.trans a7)
  obtain rfl := Option.some.inj (n10.symm.trans a10)
  obtain rfl := Option.some.inj (nsp.symm.trans ags)
  obtain rfl := Option.some.inj (y6.symm.trans b6)
  obtain rfl := Option.some.inj (y7.symm.trans b7)
  obtain rfl := Option.some.inj (y10.symm.trans b10)
  obtain rfl := Option.some.inj (ysp.symm.trans bs)
  obtain ⟨g11, t11, cs11, f11, p11, a11, b11, v11, d11⟩ := laidMet.reads h (show ("internal/strconv.pow10Tab", Rows.laid_internal_strconv_pow10Tab) ∈ Rows.fnNetstatBackRow.laid by simp [Rows.fnNetstatBackRow])
  obtain rfl := Option.some.inj (n11.symm.trans a11)
  obtain rfl := Option.some.inj (y11.symm.trans b11)
  have h11 := tab_open d11
  -- optimize
  obtain ⟨bb, e6, x6⟩ := DataW.trod_bool Tryz.underlying4 d6
  obtain rfl : true = bb := by
    simp only [Rows.laid_internal_strconv_optimize, Prod.mk.injEq, DataW.lit.injEq, Lit.bool.injEq] at x6
    exact x6.1
  have h6 : W.cell? ⟨6, 0, none⟩ = some (.bool true) := by
    rw [World.var?_cell n6 v6 0, ← Array.getElem?_toList, e6]; rfl
  -- float64info
  obtain ⟨y0, y1, y2, m7, x7, _, k7, _, _⟩ := trod_struct3 Tryz.underlying152 d7
  obtain ⟨z7, e7, w7, _⟩ := DataW.trod_int Tryz.underlying150 k7
  obtain rfl : 52 = z7 := by
    simp only [Rows.laid_internal_strconv_float64info, w7, Prod.mk.injEq, DataW.agg.injEq, List.cons.injEq, DataW.lit.injEq, Lit.int.injEq, true_and] at x7
    exact x7.1.1
  have h7 : W.cell? ⟨7, 0, none⟩ = some (.int .u64 52) := by
    rw [World.var?_cell n7 v7 0, ← Array.getElem?_toList]
    have := congrArg (fun l => l[0]?) e7
    rw [show Tryz.prog.cellsOf 150 = 1 by kernel_rfl] at this
    simpa [List.getElem?_take] using this
  -- float64pow10
  rcases open_slice1 Tryz.underlying119 c36 d10 with ⟨_, e⟩ | ⟨x, n, c, m, nn, V, D, Pl, e10, _, hl, _, hm, x10, hc⟩
  · simp [Rows.laid_internal_strconv_float64pow10] at e
  obtain ⟨es, hes, el, e1, e2⟩ : ∃ es, (Rows.laid_internal_strconv_float64pow10 : DataW Unit) = .slice es [] ∧ es.length = 23 ∧ es[1]? = some (.lit (.float .f64 4621819117588971520)) ∧ es[2]? = some (.lit (.float .f64 4636737291354636288)) :=
    ⟨_, rfl, rfl, rfl, rfl⟩
  have hx : es = (List.range n).map D := by
    have := congrArg Prod.fst x10
    rw [hes] at this
    simp only [DataW.slice.injEq] at this
    exact this.1
  have hn : n = 23 := by
    have := congrArg List.length hx
    rw [el] at this
    simpa using this.symm
  have hm23 : 23 ≤ m := by rw [hm]; split <;> omega
  have hv : ∀ i b, i < 23 → D i = .lit (.float .f64 b) → V i = .float .f64 b := fun i b hi hd => by
    obtain ⟨b', e1, e2⟩ := float_open (hc i (by omega)).2
    have e3 := congrArg Prod.fst e2
    rw [show (D i, Pl i).1 = D i from rfl, hd] at e3
    simp only [DataW.lit.injEq, Lit.float.injEq, true_and] at e3
    rw [e1, e3]
  have hD1 : D 1 = .lit (.float .f64 4621819117588971520) := by
    rw [hx] at e1
    simpa [hn] using e1
  have hD2 : D 2 = .lit (.float .f64 4636737291354636288) := by
    rw [hx] at e2
    simpa [hn] using e2
  have h10 : W.cell? ⟨10, 0, none⟩ = some (.slice (some x) n c) := by
    rw [World.var?_cell n10 v10 0, ← Array.getElem?_toList, e10]; rfl
  have q1 := (hc 1 (by omega)).1
  have q2 := (hc 2 (by omega)).1
  rw [hv 1 _ (by omega) hD1] at q1
  rw [hv 2 _ (by omega) hD2] at q2
  refine ⟨x, n, c, ⟨by omega, by omega, ⟨h6, h7, h10, by simpa [Addr.add] using q1, by simpa [Addr.add] using q2⟩, ⟨block_lt h10, ?_⟩, ?_, fun g hg => ?_⟩, h6, h7, by rw [World.var?_cell n11 v11 696, ← Array.getElem?_toList]; exact h11.1, by rw [World.var?_cell n11 v11 697, ← Array.getElem?_toList]; exact h11.2⟩
  · exact block_lt (a := x.add 1) q1
  · unfold Lib.TabIs
    rw [tabEq] at ds
    rw [vs, ← cells_of_tab Tryz.underlying127 Tryz.underlying5 c5 c127 ds]
  · obtain rfl := Option.some.inj (nsp.symm.trans hg)
    have := block_lt h6
    exact Nat.lt_of_lt_of_le (by decide : (1 : Nat) < 6) (Nat.le_of_lt this)
end Go.Proofs.YtabfglmpnkgecaaGreatDoor.X

/- J3. The row of FnNetstatBack: its contract for every argument, a witness, its statement. -/
namespace Go.Proofs.YtabfglmpnkgecaaGreatDoor.X
open Go.ChangeShapes Go.WideShapes Go.ChangeAt Go.RowKit

theorem own : ownKnob Tryz.prog.godebug = none := by kernel_rfl
theorem laidOut : laidOutB Tryz.prog = true := by kernel_rfl

set_option maxRecDepth 100000 in
theorem contract (H : Type) (enc : TypeId × Value → H) (W : World) (base : Nat) (args : Array Value) (ds gs : List (DataW H)) (before : List MemPlace)
    (hval : ∀ (j : Nat) t v, Tryz.f3.params[j]? = some t → args[j]? = some v → Value.okWide Tryz.prog W .any base t v)
    (hW : DataW.Whole enc Tryz.prog Tryz.f3.params.toList Rows.fnNetstatBackSpec.vars false W args.toList ds gs before) (hL : laidMetH Tryz.prog Rows.fnNetstatBackRow.laid W) :
    Calls Tryz.prog 3 args W fun e W' => ∃ v, e = .returned v ∧ Rows.fnNetstatBackSpec.post enc Tryz.prog Tryz.f3 false true false false W args v W' := by
  have hW' := hW
  obtain ⟨p, q, hA0, hV, rfl, hfz, hnd⟩ := hW
  have hA : DataW.TrodAll enc Tryz.prog W 0 (fun _ => true) true Tryz.f3.params.toList args.toList ds p := hA0
  rw [Tryz.params3] at hA hval
  obtain ⟨v0, vs0, d0, ds0, p0, q0, hargs, rfl, rfl, h0, r0⟩ := trodAll_cons hA
  obtain ⟨rfl, rfl, rfl⟩ := trodAll_nil r0
  obtain rfl : args = #[v0] := by cases args; simp_all
  obtain ⟨rfl, rfl⟩ := trodVars_none hV
  have lt0 : ∀ x ∈ p0, x.block < W.heap.size := by obtain ⟨m, hm⟩ := h0; exact DataW.trod_lt m _ _ _ hm
  obtain ⟨A, cp, l, rfl, hc, hC, hw⟩ := rows_open (hval 0 22 v0 rfl rfl) h0
  obtain ⟨x, n, c, hlive, hvars⟩ := live_of_laid hL
  clear hA0
  refine (fnNetstatBack_calls x n c l A cp W hlive hC hc hvars).mono fun e W' ⟨he, bel⟩ => ?_
  subst he
  exact ⟨_, rfl, _, _, _, [], _, [], hW', trodAll_mk1 (shut_bool Tryz.underlying4 _), trodAll_cons_mk (Below.trod laidOut (by kernel_rfl) (of_decide_eq_true (by kernel_rfl)) h0 bel lt0) trodAll_mk0, rfl, bel.frame _, fun h => by cases h⟩

set_option maxRecDepth 100000 in
theorem lifted (os : Os) (started : os.Started) (H : Type) (enc : TypeId × Value → H) :
    ReturnsInHanded {} Tryz.checked os 3 .any (fun w args => (Rows.fnNetstatBackSpec.pre enc Tryz.prog Tryz.f3 [] false w args ∧ laidMetH Tryz.prog Rows.fnNetstatBackRow.laid w) ∧ sizedMet enc Tryz.prog Tryz.f3 (OpenSpec.ofChange Rows.fnNetstatBackSpec) false w args)
      (Rows.fnNetstatBackSpec.post enc Tryz.prog Tryz.f3 false true false false) := by
  refine returnsInHanded_of_change_and (C := Tryz.checked) (X := fun w _ => laidMetH Tryz.prog Rows.fnNetstatBackRow.laid w) (fun _ _ _ hh h => h.of_heap hh) own started (by kernel_rfl) Tryz.func3
    (ChangeSpec.witness_shaped (enc := enc) (C := Tryz.checked) (os := os) (X := fun w _ => laidMetH Tryz.prog Rows.fnNetstatBackRow.laid w) false (World.laidAll Tryz.prog os Rows.fnNetstatBackRow.laid) #[.slice none 0 0] 8 (World.laidAll_os _ _ _)
      (World.shaped_of_ZipB (by kernel_rfl) (by kernel_rfl)) (by kernel_rfl) (by kernel_rfl) (by kernel_rfl)
      (by rw [MakeChecks.laidMetH_plain _ _ _ (by kernel_rfl)]; exact laidMet_laidAll _ (by kernel_rfl) (by kernel_rfl))) ?_
  intro W base args ds gs before hval hW _ _ hL _
  exact contract H enc W base args ds gs before hval hW hL

theorem said : Rows.FnNetstatBackSaid :=
  OpenClaim.holds_of_wide 3 Tryz.f3 rfl rfl rfl rfl rfl rfl rfl ⟨rfl, rfl, rfl, rfl, rfl⟩ rfl rfl rfl rfl rfl (by kernel_rfl) Tryz.func3 (by kernel_rfl)
    (of_decide_eq_true (by kernel_rfl)) (by unfold Func.isWrapper; first | (rw [if_pos (by decide +kernel)]; kernel_rfl) | (rw [if_neg (by decide +kernel)]; exact ⟨rfl, rfl⟩))
    (fun os started H enc _ => lifted os started H enc)
end Go.Proofs.YtabfglmpnkgecaaGreatDoor.X
