/- A kind for float64 among the print's kinds: a value that is one cell, its bits as a natural number. -/
import Derived.Test.YtabfglmpnkgecaaGreatDoorWWords
import Derived.Test.YtabfglmpnkgecaaGreatDoorWFoot
import Derived.WideLaws
import Derived.Test.YtabfglmpnkgecaaGreatDoorProg
import Derived.Below
import Derived.Deep.Draws
import Derived.Deep.AppendLies
import Derived.Maps.AppendAt
import Derived.OwnWalk
import Derived.Laws.BytesArg
import Derived.Laws.MakeOwn
import Derived.Laws.OwnMore
import Derived.Deep.OwnRows
import Derived.Tactics
import Derived.Lib.ConvBytes
import Derived.Laws.Slices
import Derived.WalkKit
import Derived.KernelRfl
import Derived.RowKit3
import Derived.Deep.LoopGhost
import Derived.Deep.QuietTactic
import Derived.BigQuiet
import Derived.Deep.DeepCutAuto
import Derived.Deep.CutBlock
import Derived.Deep.RegionHeld3
import Derived.Laws.Rows
import Derived.Lib.AppendStr
import Derived.ArgAppend
import Derived.Laws.IdiomCopy
import Derived.OrdersHeld
import Derived.Laws.BitsLemmas
import Derived.RowKit
import Derived.Test.YtabfglmpnkgecaaGreatDoorWLast
import Derived.Test.YtabfglmpnkgecaaGreatDoorWTab
import Derived.Test.YtabfglmpnkgecaaGreatDoorWFour
import Derived.Test.YtabfglmpnkgecaaGreatDoorWQPut
import Derived.Test.YtabfglmpnkgecaaGreatDoorWApart
import Derived.Test.YtabfglmpnkgecaaGreatDoorWArr
import Derived.Test.YtabfglmpnkgecaaGreatDoorWZeros
import Derived.Test.YtabfglmpnkgecaaGreatDoorWKept
import Derived.Test.YtabfglmpnkgecaaGreatDoorWShare
import Derived.Test.YtabfglmpnkgecaaGreatDoorWN
import Derived.Test.YtabfglmpnkgecaaGreatDoorWFootNe
import Derived.Test.YtabfglmpnkgecaaGreatDoorWAt
import Derived.Test.YtabfglmpnkgecaaGreatDoorWEqStruct
import Derived.Test.YtabfglmpnkgecaaGreatDoorWRepsOne
import Derived.Test.YtabfglmpnkgecaaGreatDoorWInv
import Derived.Test.YtabfglmpnkgecaaGreatDoorWInvWords
import Derived.Test.YtabfglmpnkgecaaGreatDoorWGuard
import Derived.Test.YtabfglmpnkgecaaGreatDoorWNEv
import Derived.Test.YtabfglmpnkgecaaGreatDoorWMore
set_option linter.unusedVariables false
set_option linter.unusedSimpArgs false
namespace Go.Proofs.YtabfglmpnkgecaaGreatDoorW.PrintWords
open Go.RowKit
namespace Kd
def f64 : Kd Nat := scalar (Value.float .f64) (fun _ => rfl)
theorem heap_f64 : Heap Kd.f64 := ⟨fun _ h => h⟩
theorem at_f64 {w : World} {A : Option Addr} {n : Nat} {xs : List Nat} (h : Kd.f64.C w A n xs) (i : Int) (h0 : 0 ≤ i) (h1 : i < n) : ∃ ad, A = some ad ∧ w.cell? (ad.add i.toNat) = some (.float .f64 (rdOf (0 : Nat) xs i)) :=
  ReadsOf.at_ (reads_of_C (enc := Value.float .f64) (d := (0 : Nat)) (h1 := fun _ => rfl) h) i h0 h1
end Kd
/-- A float is stored as every other value of one cell is. -/
theorem run_store_float {P : Program} {w : World} {a : Addr} {m : Mode} (k : FloatKind) (b : Nat) : (store a (.float k b) m).run P w = stored P w a (.float k b) m := run_store P w a _ m rfl
end Go.Proofs.YtabfglmpnkgecaaGreatDoorW.PrintWords

-- Written by a program of this claim's session (after the kit's print, with a kind for float64). Lean checks it.
namespace Go.Proofs.YtabfglmpnkgecaaGreatDoor.Q
open Go.RowKit Go.Proofs.YtabfglmpnkgecaaGreatDoorW.PrintWords Go.Proofs.YtabfglmpnkgecaaGreatDoorW.PrintLast Go.Proofs.YtabfglmpnkgecaaGreatDoorW.PrintMore
attribute [local go_sem] max2_int min2_int max_two min_two max_three min_three max_four min_four   -- for this text's walks alone
set_option linter.unusedVariables false
set_option linter.unusedSimpArgs false



def errW : Option Int → Value
  | none => .nilIface
  | some c => .iface 0 (.int .i64 c)
theorem errW_none : errW none = .nilIface := rfl
theorem errW_some (c : Int) : errW (some c) = .iface 0 (.int .i64 c) := rfl

theorem info5 : (Tryz.prog.info? 5).map (fun i => (i.zero, i.size, i.bytes)) = some (some (.int .u8 0), 1, 1) := by kernel_rfl
theorem info9 : (Tryz.prog.info? 9).map (fun i => (i.zero, i.size, i.bytes)) = some (some (.string ⟨#[]⟩), 1, 16) := by kernel_rfl
theorem info39 : (Tryz.prog.info? 39).map (fun i => (i.zero, i.size, i.bytes)) = some (some (.agg #[(.string ⟨#[]⟩), (.int .i64 0), (.bool false), (.int .i64 0), (.int .u64 0), (.float .f64 0), (.string ⟨#[]⟩), (.slice none 0 0)]), 8, 96) := by kernel_rfl
-- the values' own types
def rd_L2 (xs : List (List Int)) (i : Int) : (List Int) := xs.getD i.toNat ([] : List Int)
theorem at_L2 {w : World} {A : Option Addr} {n : Nat} {xs : List (List Int)} (h : Kd.C (Kd.slice 35 (Kd.int .u64)) w A n xs) (i : Int) (h0 : 0 ≤ i) (h1 : i < n) : ∃ ad A0 c0, A = some ad ∧ w.cell? (ad.add i.toNat) = some (.slice A0 (rd_L2 xs i).length c0) ∧ (rd_L2 xs i).length ≤ c0 ∧ (Kd.int .u64).C w A0 (rd_L2 xs i).length (rd_L2 xs i) := by
  obtain ⟨ad, c, e, _, hK, hc0⟩ := Kd.C_get h ([] : List Int) i h0 h1
  have hc : ∀ j u, c[j]? = some u → w.cell? (ad.add (i.toNat * 1 + j)) = some u := hc0
  obtain ⟨A0, c0, rfl, l0, g0⟩ := hK
  exact ⟨ad, A0, c0, e, by have hq := hc 0 _ rfl; rwa [Nat.mul_one, Nat.add_zero] at hq, l0, g0⟩

def rd_L3 (xs : List (List ByteArray)) (i : Int) : (List ByteArray) := xs.getD i.toNat ([] : List ByteArray)
theorem at_L3 {w : World} {A : Option Addr} {n : Nat} {xs : List (List ByteArray)} (h : Kd.C (Kd.slice 9 Kd.string) w A n xs) (i : Int) (h0 : 0 ≤ i) (h1 : i < n) : ∃ ad A0 c0, A = some ad ∧ w.cell? (ad.add i.toNat) = some (.slice A0 (rd_L3 xs i).length c0) ∧ (rd_L3 xs i).length ≤ c0 ∧ Kd.string.C w A0 (rd_L3 xs i).length (rd_L3 xs i) := by
  obtain ⟨ad, c, e, _, hK, hc0⟩ := Kd.C_get h ([] : List ByteArray) i h0 h1
  have hc : ∀ j u, c[j]? = some u → w.cell? (ad.add (i.toNat * 1 + j)) = some u := hc0
  obtain ⟨A0, c0, rfl, l0, g0⟩ := hK
  exact ⟨ad, A0, c0, e, by have hq := hc 0 _ rfl; rwa [Nat.mul_one, Nat.add_zero] at hq, l0, g0⟩

/-! #### struct type 31 -/
structure S31 where
  f0 : ByteArray
  f1 : (List Int)
  f2 : (List ByteArray)
def z31 : S31 := ⟨(⟨#[]⟩ : ByteArray), ([] : List Int), ([] : List ByteArray)⟩
def k31 : Kd S31 := Kd.iso (Kd.pair Kd.string (Kd.pair (Kd.slice 35 (Kd.int .u64)) (Kd.slice 9 Kd.string))) (fun x : S31 => (x.f0, x.f1, x.f2))
theorem k31_open {w : World} {x : S31} {cs : List Value} (h : k31.K w x cs) : ∃ A1 c1 A2 c2, cs = [.string x.f0, .slice A1 x.f1.length c1, .slice A2 x.f2.length c2] ∧ x.f1.length ≤ c1 ∧ (Kd.int .u64).C w A1 x.f1.length x.f1 ∧ x.f2.length ≤ c2 ∧ Kd.string.C w A2 x.f2.length x.f2 := by
  obtain ⟨_, _, rfl, rfl, ⟨_, _, rfl, ⟨A1, c1, rfl, l1, g1⟩, ⟨A2, c2, rfl, l2, g2⟩⟩⟩ := h
  exact ⟨A1, c1, A2, c2, rfl, l1, g1, l2, g2⟩
theorem k31_openM {w : World} {base : Nat} {ok : Nat → Prop} {x : S31} {cs : List Value} (h : k31.M w base ok x cs) : ∃ v1 v2, cs = [.string x.f0, v1, v2] ∧ (Kd.int .u64).R 35 w base ok v1 x.f1 ∧ Kd.string.R 9 w base ok v2 x.f2 := by
  obtain ⟨_, _, rfl, rfl, ⟨_, _, rfl, ⟨v1, rfl, g1⟩, ⟨v2, rfl, g2⟩⟩⟩ := h
  exact ⟨v1, v2, rfl, g1, g2⟩
theorem k31_mk (w : World) (x : S31) {A1 : Option Addr} {c1 : Nat} (l1 : x.f1.length ≤ c1) (g1 : (Kd.int .u64).C w A1 x.f1.length x.f1) {A2 : Option Addr} {c2 : Nat} (l2 : x.f2.length ≤ c2) (g2 : Kd.string.C w A2 x.f2.length x.f2) : k31.K w x [.string x.f0, .slice A1 x.f1.length c1, .slice A2 x.f2.length c2] := ⟨[.string x.f0], [.slice A1 x.f1.length c1, .slice A2 x.f2.length c2], rfl, rfl, ⟨[.slice A1 x.f1.length c1], [.slice A2 x.f2.length c2], rfl, ⟨A1, c1, rfl, l1, g1⟩, ⟨A2, c2, rfl, l2, g2⟩⟩⟩
theorem k31_mkM (w : World) (base : Nat) (ok : Nat → Prop) (x : S31) {v1 : Value} (g1 : (Kd.int .u64).R 35 w base ok v1 x.f1) {v2 : Value} (g2 : Kd.string.R 9 w base ok v2 x.f2) : k31.M w base ok x [.string x.f0, v1, v2] := ⟨[.string x.f0], [v1, v2], rfl, rfl, ⟨[v1], [v2], rfl, ⟨v1, rfl, g1⟩, ⟨v2, rfl, g2⟩⟩⟩
theorem k31_openF {W : World} {ok : Nat → Prop} {x : S31} {cs : List Value} (h : Kd.FK k31 W ok x cs) : ∃ A1 c1 A2 c2, cs = [.string x.f0, .slice A1 x.f1.length c1, .slice A2 x.f2.length c2] ∧ x.f1.length ≤ c1 ∧ Kd.F (Kd.int .u64) W ok A1 x.f1.length x.f1 ∧ x.f2.length ≤ c2 ∧ Kd.F Kd.string W ok A2 x.f2.length x.f2 := by
  obtain ⟨A1, c1, A2, c2, rfl, l1, _, l2, _⟩ := k31_open (Kd.FK_now h)
  exact ⟨A1, c1, A2, c2, rfl, l1, (fun W' hW => by obtain ⟨A1_, c1_, A2_, c2_, he, l1_, g1_, l2_, g2_⟩ := k31_open (h W' hW); injection (Option.some.inj (show some (Value.slice A1 x.f1.length c1) = some (Value.slice A1_ x.f1.length c1_) from congrArg (fun l => l[1]?) he)) with ha_ _ _; rw [ha_]; exact g1_), l2, (fun W' hW => by obtain ⟨A1_, c1_, A2_, c2_, he, l1_, g1_, l2_, g2_⟩ := k31_open (h W' hW); injection (Option.some.inj (show some (Value.slice A2 x.f2.length c2) = some (Value.slice A2_ x.f2.length c2_) from congrArg (fun l => l[2]?) he)) with ha_ _ _; rw [ha_]; exact g2_)⟩
theorem k31_mkF (W : World) (ok : Nat → Prop) (x : S31) {A1 : Option Addr} {c1 : Nat} (l1 : x.f1.length ≤ c1) (g1 : Kd.F (Kd.int .u64) W ok A1 x.f1.length x.f1) {A2 : Option Addr} {c2 : Nat} (l2 : x.f2.length ≤ c2) (g2 : Kd.F Kd.string W ok A2 x.f2.length x.f2) : Kd.FK k31 W ok x [.string x.f0, .slice A1 x.f1.length c1, .slice A2 x.f2.length c2] := fun W2 hW => k31_mk W2 x l1 (g1 W2 hW) l2 (g2 W2 hW)
def rd_T31 (xs : List S31) (i : Int) : S31 := xs.getD i.toNat z31
theorem at_T31 {w : World} {A : Option Addr} {n : Nat} {xs : List S31} (h : Kd.C k31 w A n xs) (i : Int) (h0 : 0 ≤ i) (h1 : i < n) : ∃ ad A1 c1 A2 c2, A = some ad ∧ w.cell? (ad.add (i.toNat * 3)) = some (.string (rd_T31 xs i).f0) ∧ w.cell? ⟨(ad.add (i.toNat * 3)).block, (ad.add (i.toNat * 3)).off + 1, none⟩ = some (.slice A1 (rd_T31 xs i).f1.length c1) ∧ w.cell? ⟨(ad.add (i.toNat * 3)).block, (ad.add (i.toNat * 3)).off + 2, none⟩ = some (.slice A2 (rd_T31 xs i).f2.length c2) ∧ (rd_T31 xs i).f1.length ≤ c1 ∧ (Kd.int .u64).C w A1 (rd_T31 xs i).f1.length (rd_T31 xs i).f1 ∧ (rd_T31 xs i).f2.length ≤ c2 ∧ Kd.string.C w A2 (rd_T31 xs i).f2.length (rd_T31 xs i).f2 := by
  obtain ⟨ad, c, e, _, hK, hc0⟩ := Kd.C_get h z31 i h0 h1
  have hc : ∀ j u, c[j]? = some u → w.cell? (ad.add (i.toNat * 3 + j)) = some u := hc0
  obtain ⟨A1, c1, A2, c2, rfl, l1, g1, l2, g2⟩ := k31_open hK
  exact ⟨ad, A1, c1, A2, c2, e, hc 0 _ rfl, by rw [← add_field _ _ 1 (by omega)]; exact hc 1 _ rfl, by rw [← add_field _ _ 2 (by omega)]; exact hc 2 _ rfl, l1, g1, l2, g2⟩

/-! #### struct type 39, nested in itself -/
structure S39 where
  f0 : ByteArray
  f1 : Int
  f2 : Bool
  f3 : Int
  f4 : Int
  f5 : Nat
  f6 : ByteArray
  f7 : (List S39)
def z39 : S39 := ⟨(⟨#[]⟩ : ByteArray), (0 : Int), false, (0 : Int), (0 : Int), (0 : Nat), (⟨#[]⟩ : ByteArray), ([] : List S39)⟩
def F39 (d : Kd S39) : Kd S39 := Kd.iso (Kd.pair Kd.string (Kd.pair (Kd.int .i64) (Kd.pair Kd.bool (Kd.pair (Kd.int .i64) (Kd.pair (Kd.int .u64) (Kd.pair Kd.f64 (Kd.pair Kd.string (Kd.slice 39 d)))))))) (fun x : S39 => (x.f0, x.f1, x.f2, x.f3, x.f4, x.f5, x.f6, x.f7))
theorem mono39 : Kd.Mono F39 := Kd.mono_iso _ (Kd.mono_pair (Kd.mono_const _) (Kd.mono_pair (Kd.mono_const _) (Kd.mono_pair (Kd.mono_const _) (Kd.mono_pair (Kd.mono_const _) (Kd.mono_pair (Kd.mono_const _) (Kd.mono_pair (Kd.mono_const _) (Kd.mono_pair (Kd.mono_const _) (Kd.mono_slice 39 Kd.mono_id))))))))
theorem sub39 : Kd.Sub F39 [39] := Kd.sub_iso _ (Kd.sub_pair (Kd.sub_const _ (by decide)) (Kd.sub_pair (Kd.sub_const _ (by decide)) (Kd.sub_pair (Kd.sub_const _ (by decide)) (Kd.sub_pair (Kd.sub_const _ (by decide)) (Kd.sub_pair (Kd.sub_const _ (by decide)) (Kd.sub_pair (Kd.sub_const _ (by decide)) (Kd.sub_pair (Kd.sub_const _ (by decide)) (Kd.sub_slice 39 (by decide) Kd.sub_id))))))))
theorem sz39 : ∀ n, (Kd.upto F39 8 [39] n).sz = 8 := Kd.upto_sz (fun _ => rfl)
def k39 : Kd S39 := Kd.fix F39 8 [39] sz39 (Kd.upto_E sub39)
theorem k39_open {w : World} {x : S39} {cs : List Value} (h : k39.K w x cs) : ∃ A7 c7, cs = [.string x.f0, .int .i64 x.f1, .bool x.f2, .int .i64 x.f3, .int .u64 x.f4, .float .f64 x.f5, .string x.f6, .slice A7 x.f7.length c7] ∧ x.f7.length ≤ c7 ∧ k39.C w A7 x.f7.length x.f7 := by
  obtain ⟨n, h⟩ := h
  cases n with
  | zero => exact h.elim
  | succ n =>
    obtain ⟨_, _, rfl, rfl, ⟨_, _, rfl, rfl, ⟨_, _, rfl, rfl, ⟨_, _, rfl, rfl, ⟨_, _, rfl, rfl, ⟨_, _, rfl, rfl, ⟨_, _, rfl, rfl, ⟨A7, c7, rfl, l7, g7⟩⟩⟩⟩⟩⟩⟩⟩ := h
    exact ⟨A7, c7, rfl, l7, Kd.fix_C g7⟩
theorem k39_openM {w : World} {base : Nat} {ok : Nat → Prop} {x : S39} {cs : List Value} (h : k39.M w base ok x cs) : ∃ v7, cs = [.string x.f0, .int .i64 x.f1, .bool x.f2, .int .i64 x.f3, .int .u64 x.f4, .float .f64 x.f5, .string x.f6, v7] ∧ k39.R 39 w base ok v7 x.f7 := by
  obtain ⟨n, h⟩ := h
  cases n with
  | zero => exact h.elim
  | succ n =>
    obtain ⟨_, _, rfl, rfl, ⟨_, _, rfl, rfl, ⟨_, _, rfl, rfl, ⟨_, _, rfl, rfl, ⟨_, _, rfl, rfl, ⟨_, _, rfl, rfl, ⟨_, _, rfl, rfl, ⟨v7, rfl, g7⟩⟩⟩⟩⟩⟩⟩⟩ := h
    exact ⟨v7, rfl, Kd.fix_R g7⟩
theorem k39_mk (w : World) (x : S39) {A7 : Option Addr} {c7 : Nat} (l7 : x.f7.length ≤ c7) (g7 : k39.C w A7 x.f7.length x.f7) : k39.K w x [.string x.f0, .int .i64 x.f1, .bool x.f2, .int .i64 x.f3, .int .u64 x.f4, .float .f64 x.f5, .string x.f6, .slice A7 x.f7.length c7] := by
  obtain ⟨n7, q7⟩ := Kd.fix_C_back mono39 g7
  have r7 := Kd.upto_C_le mono39 sz39 (show n7 ≤ n7 by omega) q7
  exact ⟨n7 + 1, ⟨[.string x.f0], [.int .i64 x.f1, .bool x.f2, .int .i64 x.f3, .int .u64 x.f4, .float .f64 x.f5, .string x.f6, .slice A7 x.f7.length c7], rfl, rfl, ⟨[.int .i64 x.f1], [.bool x.f2, .int .i64 x.f3, .int .u64 x.f4, .float .f64 x.f5, .string x.f6, .slice A7 x.f7.length c7], rfl, rfl, ⟨[.bool x.f2], [.int .i64 x.f3, .int .u64 x.f4, .float .f64 x.f5, .string x.f6, .slice A7 x.f7.length c7], rfl, rfl, ⟨[.int .i64 x.f3], [.int .u64 x.f4, .float .f64 x.f5, .string x.f6, .slice A7 x.f7.length c7], rfl, rfl, ⟨[.int .u64 x.f4], [.float .f64 x.f5, .string x.f6, .slice A7 x.f7.length c7], rfl, rfl, ⟨[.float .f64 x.f5], [.string x.f6, .slice A7 x.f7.length c7], rfl, rfl, ⟨[.string x.f6], [.slice A7 x.f7.length c7], rfl, rfl, ⟨A7, c7, rfl, l7, r7⟩⟩⟩⟩⟩⟩⟩⟩⟩
theorem k39_mkM (w : World) (base : Nat) (ok : Nat → Prop) (x : S39) {v7 : Value} (g7 : k39.R 39 w base ok v7 x.f7) : k39.M w base ok x [.string x.f0, .int .i64 x.f1, .bool x.f2, .int .i64 x.f3, .int .u64 x.f4, .float .f64 x.f5, .string x.f6, v7] := by
  obtain ⟨n7, q7⟩ := Kd.fix_R_back mono39 g7
  have r7 := Kd.upto_R_le mono39 sz39 (show n7 ≤ n7 by omega) q7
  exact ⟨n7 + 1, ⟨[.string x.f0], [.int .i64 x.f1, .bool x.f2, .int .i64 x.f3, .int .u64 x.f4, .float .f64 x.f5, .string x.f6, v7], rfl, rfl, ⟨[.int .i64 x.f1], [.bool x.f2, .int .i64 x.f3, .int .u64 x.f4, .float .f64 x.f5, .string x.f6, v7], rfl, rfl, ⟨[.bool x.f2], [.int .i64 x.f3, .int .u64 x.f4, .float .f64 x.f5, .string x.f6, v7], rfl, rfl, ⟨[.int .i64 x.f3], [.int .u64 x.f4, .float .f64 x.f5, .string x.f6, v7], rfl, rfl, ⟨[.int .u64 x.f4], [.float .f64 x.f5, .string x.f6, v7], rfl, rfl, ⟨[.float .f64 x.f5], [.string x.f6, v7], rfl, rfl, ⟨[.string x.f6], [v7], rfl, rfl, ⟨v7, rfl, r7⟩⟩⟩⟩⟩⟩⟩⟩⟩
theorem k39_openF {W : World} {ok : Nat → Prop} {x : S39} {cs : List Value} (h : Kd.FK k39 W ok x cs) : ∃ A7 c7, cs = [.string x.f0, .int .i64 x.f1, .bool x.f2, .int .i64 x.f3, .int .u64 x.f4, .float .f64 x.f5, .string x.f6, .slice A7 x.f7.length c7] ∧ x.f7.length ≤ c7 ∧ Kd.F k39 W ok A7 x.f7.length x.f7 := by
  obtain ⟨A7, c7, rfl, l7, _⟩ := k39_open (Kd.FK_now h)
  exact ⟨A7, c7, rfl, l7, (fun W' hW => by obtain ⟨A7_, c7_, he, l7_, g7_⟩ := k39_open (h W' hW); injection (Option.some.inj (show some (Value.slice A7 x.f7.length c7) = some (Value.slice A7_ x.f7.length c7_) from congrArg (fun l => l[7]?) he)) with ha_ _ _; rw [ha_]; exact g7_)⟩
theorem k39_mkF (W : World) (ok : Nat → Prop) (x : S39) {A7 : Option Addr} {c7 : Nat} (l7 : x.f7.length ≤ c7) (g7 : Kd.F k39 W ok A7 x.f7.length x.f7) : Kd.FK k39 W ok x [.string x.f0, .int .i64 x.f1, .bool x.f2, .int .i64 x.f3, .int .u64 x.f4, .float .f64 x.f5, .string x.f6, .slice A7 x.f7.length c7] := fun W2 hW => k39_mk W2 x l7 (g7 W2 hW)
def rd_T39 (xs : List S39) (i : Int) : S39 := xs.getD i.toNat z39
theorem at_T39 {w : World} {A : Option Addr} {n : Nat} {xs : List S39} (h : Kd.C k39 w A n xs) (i : Int) (h0 : 0 ≤ i) (h1 : i < n) : ∃ ad A7 c7, A = some ad ∧ w.cell? (ad.add (i.toNat * 8)) = some (.string (rd_T39 xs i).f0) ∧ w.cell? ⟨(ad.add (i.toNat * 8)).block, (ad.add (i.toNat * 8)).off + 1, none⟩ = some (.int .i64 (rd_T39 xs i).f1) ∧ w.cell? ⟨(ad.add (i.toNat * 8)).block, (ad.add (i.toNat * 8)).off + 2, none⟩ = some (.bool (rd_T39 xs i).f2) ∧ w.cell? ⟨(ad.add (i.toNat * 8)).block, (ad.add (i.toNat * 8)).off + 3, none⟩ = some (.int .i64 (rd_T39 xs i).f3) ∧ w.cell? ⟨(ad.add (i.toNat * 8)).block, (ad.add (i.toNat * 8)).off + 4, none⟩ = some (.int .u64 (rd_T39 xs i).f4) ∧ w.cell? ⟨(ad.add (i.toNat * 8)).block, (ad.add (i.toNat * 8)).off + 5, none⟩ = some (.float .f64 (rd_T39 xs i).f5) ∧ w.cell? ⟨(ad.add (i.toNat * 8)).block, (ad.add (i.toNat * 8)).off + 6, none⟩ = some (.string (rd_T39 xs i).f6) ∧ w.cell? ⟨(ad.add (i.toNat * 8)).block, (ad.add (i.toNat * 8)).off + 7, none⟩ = some (.slice A7 (rd_T39 xs i).f7.length c7) ∧ (rd_T39 xs i).f7.length ≤ c7 ∧ k39.C w A7 (rd_T39 xs i).f7.length (rd_T39 xs i).f7 := by
  obtain ⟨ad, c, e, _, hK, hc0⟩ := Kd.C_get h z39 i h0 h1
  have hc : ∀ j u, c[j]? = some u → w.cell? (ad.add (i.toNat * 8 + j)) = some u := hc0
  obtain ⟨A7, c7, rfl, l7, g7⟩ := k39_open hK
  exact ⟨ad, A7, c7, e, hc 0 _ rfl, by rw [← add_field _ _ 1 (by omega)]; exact hc 1 _ rfl, by rw [← add_field _ _ 2 (by omega)]; exact hc 2 _ rfl, by rw [← add_field _ _ 3 (by omega)]; exact hc 3 _ rfl, by rw [← add_field _ _ 4 (by omega)]; exact hc 4 _ rfl, by rw [← add_field _ _ 5 (by omega)]; exact hc 5 _ rfl, by rw [← add_field _ _ 6 (by omega)]; exact hc 6 _ rfl, by rw [← add_field _ _ 7 (by omega)]; exact hc 7 _ rfl, l7, g7⟩

/-! #### struct type 43, nested in itself -/
structure S43 where
  f0 : ByteArray
  f1 : Int
  f2 : Bool
  f3 : Int
  f4 : Int
  f5 : Nat
  f6 : ByteArray
  f7 : (List S43)
def z43 : S43 := ⟨(⟨#[]⟩ : ByteArray), (0 : Int), false, (0 : Int), (0 : Int), (0 : Nat), (⟨#[]⟩ : ByteArray), ([] : List S43)⟩
def F43 (d : Kd S43) : Kd S43 := Kd.iso (Kd.pair Kd.string (Kd.pair (Kd.int .i64) (Kd.pair Kd.bool (Kd.pair (Kd.int .i64) (Kd.pair (Kd.int .u64) (Kd.pair Kd.f64 (Kd.pair Kd.string (Kd.slice 43 d)))))))) (fun x : S43 => (x.f0, x.f1, x.f2, x.f3, x.f4, x.f5, x.f6, x.f7))
theorem mono43 : Kd.Mono F43 := Kd.mono_iso _ (Kd.mono_pair (Kd.mono_const _) (Kd.mono_pair (Kd.mono_const _) (Kd.mono_pair (Kd.mono_const _) (Kd.mono_pair (Kd.mono_const _) (Kd.mono_pair (Kd.mono_const _) (Kd.mono_pair (Kd.mono_const _) (Kd.mono_pair (Kd.mono_const _) (Kd.mono_slice 43 Kd.mono_id))))))))
theorem sub43 : Kd.Sub F43 [43] := Kd.sub_iso _ (Kd.sub_pair (Kd.sub_const _ (by decide)) (Kd.sub_pair (Kd.sub_const _ (by decide)) (Kd.sub_pair (Kd.sub_const _ (by decide)) (Kd.sub_pair (Kd.sub_const _ (by decide)) (Kd.sub_pair (Kd.sub_const _ (by decide)) (Kd.sub_pair (Kd.sub_const _ (by decide)) (Kd.sub_pair (Kd.sub_const _ (by decide)) (Kd.sub_slice 43 (by decide) Kd.sub_id))))))))
theorem sz43 : ∀ n, (Kd.upto F43 8 [43] n).sz = 8 := Kd.upto_sz (fun _ => rfl)
def k43 : Kd S43 := Kd.fix F43 8 [43] sz43 (Kd.upto_E sub43)
theorem k43_open {w : World} {x : S43} {cs : List Value} (h : k43.K w x cs) : ∃ A7 c7, cs = [.string x.f0, .int .i64 x.f1, .bool x.f2, .int .i64 x.f3, .int .u64 x.f4, .float .f64 x.f5, .string x.f6, .slice A7 x.f7.length c7] ∧ x.f7.length ≤ c7 ∧ k43.C w A7 x.f7.length x.f7 := by
  obtain ⟨n, h⟩ := h
  cases n with
  | zero => exact h.elim
  | succ n =>
    obtain ⟨_, _, rfl, rfl, ⟨_, _, rfl, rfl, ⟨_, _, rfl, rfl, ⟨_, _, rfl, rfl, ⟨_, _, rfl, rfl, ⟨_, _, rfl, rfl, ⟨_, _, rfl, rfl, ⟨A7, c7, rfl, l7, g7⟩⟩⟩⟩⟩⟩⟩⟩ := h
    exact ⟨A7, c7, rfl, l7, Kd.fix_C g7⟩
theorem k43_openM {w : World} {base : Nat} {ok : Nat → Prop} {x : S43} {cs : List Value} (h : k43.M w base ok x cs) : ∃ v7, cs = [.string x.f0, .int .i64 x.f1, .bool x.f2, .int .i64 x.f3, .int .u64 x.f4, .float .f64 x.f5, .string x.f6, v7] ∧ k43.R 43 w base ok v7 x.f7 := by
  obtain ⟨n, h⟩ := h
  cases n with
  | zero => exact h.elim
  | succ n =>
    obtain ⟨_, _, rfl, rfl, ⟨_, _, rfl, rfl, ⟨_, _, rfl, rfl, ⟨_, _, rfl, rfl, ⟨_, _, rfl, rfl, ⟨_, _, rfl, rfl, ⟨_, _, rfl, rfl, ⟨v7, rfl, g7⟩⟩⟩⟩⟩⟩⟩⟩ := h
    exact ⟨v7, rfl, Kd.fix_R g7⟩
theorem k43_mk (w : World) (x : S43) {A7 : Option Addr} {c7 : Nat} (l7 : x.f7.length ≤ c7) (g7 : k43.C w A7 x.f7.length x.f7) : k43.K w x [.string x.f0, .int .i64 x.f1, .bool x.f2, .int .i64 x.f3, .int .u64 x.f4, .float .f64 x.f5, .string x.f6, .slice A7 x.f7.length c7] := by
  obtain ⟨n7, q7⟩ := Kd.fix_C_back mono43 g7
  have r7 := Kd.upto_C_le mono43 sz43 (show n7 ≤ n7 by omega) q7
  exact ⟨n7 + 1, ⟨[.string x.f0], [.int .i64 x.f1, .bool x.f2, .int .i64 x.f3, .int .u64 x.f4, .float .f64 x.f5, .string x.f6, .slice A7 x.f7.length c7], rfl, rfl, ⟨[.int .i64 x.f1], [.bool x.f2, .int .i64 x.f3, .int .u64 x.f4, .float .f64 x.f5, .string x.f6, .slice A7 x.f7.length c7], rfl, rfl, ⟨[.bool x.f2], [.int .i64 x.f3, .int .u64 x.f4, .float .f64 x.f5, .string x.f6, .slice A7 x.f7.length c7], rfl, rfl, ⟨[.int .i64 x.f3], [.int .u64 x.f4, .float .f64 x.f5, .string x.f6, .slice A7 x.f7.length c7], rfl, rfl, ⟨[.int .u64 x.f4], [.float .f64 x.f5, .string x.f6, .slice A7 x.f7.length c7], rfl, rfl, ⟨[.float .f64 x.f5], [.string x.f6, .slice A7 x.f7.length c7], rfl, rfl, ⟨[.string x.f6], [.slice A7 x.f7.length c7], rfl, rfl, ⟨A7, c7, rfl, l7, r7⟩⟩⟩⟩⟩⟩⟩⟩⟩
theorem k43_mkM (w : World) (base : Nat) (ok : Nat → Prop) (x : S43) {v7 : Value} (g7 : k43.R 43 w base ok v7 x.f7) : k43.M w base ok x [.string x.f0, .int .i64 x.f1, .bool x.f2, .int .i64 x.f3, .int .u64 x.f4, .float .f64 x.f5, .string x.f6, v7] := by
  obtain ⟨n7, q7⟩ := Kd.fix_R_back mono43 g7
  have r7 := Kd.upto_R_le mono43 sz43 (show n7 ≤ n7 by omega) q7
  exact ⟨n7 + 1, ⟨[.string x.f0], [.int .i64 x.f1, .bool x.f2, .int .i64 x.f3, .int .u64 x.f4, .float .f64 x.f5, .string x.f6, v7], rfl, rfl, ⟨[.int .i64 x.f1], [.bool x.f2, .int .i64 x.f3, .int .u64 x.f4, .float .f64 x.f5, .string x.f6, v7], rfl, rfl, ⟨[.bool x.f2], [.int .i64 x.f3, .int .u64 x.f4, .float .f64 x.f5, .string x.f6, v7], rfl, rfl, ⟨[.int .i64 x.f3], [.int .u64 x.f4, .float .f64 x.f5, .string x.f6, v7], rfl, rfl, ⟨[.int .u64 x.f4], [.float .f64 x.f5, .string x.f6, v7], rfl, rfl, ⟨[.float .f64 x.f5], [.string x.f6, v7], rfl, rfl, ⟨[.string x.f6], [v7], rfl, rfl, ⟨v7, rfl, r7⟩⟩⟩⟩⟩⟩⟩⟩⟩
theorem k43_openF {W : World} {ok : Nat → Prop} {x : S43} {cs : List Value} (h : Kd.FK k43 W ok x cs) : ∃ A7 c7, cs = [.string x.f0, .int .i64 x.f1, .bool x.f2, .int .i64 x.f3, .int .u64 x.f4, .float .f64 x.f5, .string x.f6, .slice A7 x.f7.length c7] ∧ x.f7.length ≤ c7 ∧ Kd.F k43 W ok A7 x.f7.length x.f7 := by
  obtain ⟨A7, c7, rfl, l7, _⟩ := k43_open (Kd.FK_now h)
  exact ⟨A7, c7, rfl, l7, (fun W' hW => by obtain ⟨A7_, c7_, he, l7_, g7_⟩ := k43_open (h W' hW); injection (Option.some.inj (show some (Value.slice A7 x.f7.length c7) = some (Value.slice A7_ x.f7.length c7_) from congrArg (fun l => l[7]?) he)) with ha_ _ _; rw [ha_]; exact g7_)⟩
theorem k43_mkF (W : World) (ok : Nat → Prop) (x : S43) {A7 : Option Addr} {c7 : Nat} (l7 : x.f7.length ≤ c7) (g7 : Kd.F k43 W ok A7 x.f7.length x.f7) : Kd.FK k43 W ok x [.string x.f0, .int .i64 x.f1, .bool x.f2, .int .i64 x.f3, .int .u64 x.f4, .float .f64 x.f5, .string x.f6, .slice A7 x.f7.length c7] := fun W2 hW => k43_mk W2 x l7 (g7 W2 hW)
def rd_T43 (xs : List S43) (i : Int) : S43 := xs.getD i.toNat z43
theorem at_T43 {w : World} {A : Option Addr} {n : Nat} {xs : List S43} (h : Kd.C k43 w A n xs) (i : Int) (h0 : 0 ≤ i) (h1 : i < n) : ∃ ad A7 c7, A = some ad ∧ w.cell? (ad.add (i.toNat * 8)) = some (.string (rd_T43 xs i).f0) ∧ w.cell? ⟨(ad.add (i.toNat * 8)).block, (ad.add (i.toNat * 8)).off + 1, none⟩ = some (.int .i64 (rd_T43 xs i).f1) ∧ w.cell? ⟨(ad.add (i.toNat * 8)).block, (ad.add (i.toNat * 8)).off + 2, none⟩ = some (.bool (rd_T43 xs i).f2) ∧ w.cell? ⟨(ad.add (i.toNat * 8)).block, (ad.add (i.toNat * 8)).off + 3, none⟩ = some (.int .i64 (rd_T43 xs i).f3) ∧ w.cell? ⟨(ad.add (i.toNat * 8)).block, (ad.add (i.toNat * 8)).off + 4, none⟩ = some (.int .u64 (rd_T43 xs i).f4) ∧ w.cell? ⟨(ad.add (i.toNat * 8)).block, (ad.add (i.toNat * 8)).off + 5, none⟩ = some (.float .f64 (rd_T43 xs i).f5) ∧ w.cell? ⟨(ad.add (i.toNat * 8)).block, (ad.add (i.toNat * 8)).off + 6, none⟩ = some (.string (rd_T43 xs i).f6) ∧ w.cell? ⟨(ad.add (i.toNat * 8)).block, (ad.add (i.toNat * 8)).off + 7, none⟩ = some (.slice A7 (rd_T43 xs i).f7.length c7) ∧ (rd_T43 xs i).f7.length ≤ c7 ∧ k43.C w A7 (rd_T43 xs i).f7.length (rd_T43 xs i).f7 := by
  obtain ⟨ad, c, e, _, hK, hc0⟩ := Kd.C_get h z43 i h0 h1
  have hc : ∀ j u, c[j]? = some u → w.cell? (ad.add (i.toNat * 8 + j)) = some u := hc0
  obtain ⟨A7, c7, rfl, l7, g7⟩ := k43_open hK
  exact ⟨ad, A7, c7, e, hc 0 _ rfl, by rw [← add_field _ _ 1 (by omega)]; exact hc 1 _ rfl, by rw [← add_field _ _ 2 (by omega)]; exact hc 2 _ rfl, by rw [← add_field _ _ 3 (by omega)]; exact hc 3 _ rfl, by rw [← add_field _ _ 4 (by omega)]; exact hc 4 _ rfl, by rw [← add_field _ _ 5 (by omega)]; exact hc 5 _ rfl, by rw [← add_field _ _ 6 (by omega)]; exact hc 6 _ rfl, by rw [← add_field _ _ 7 (by omega)]; exact hc 7 _ rfl, l7, g7⟩

end Go.Proofs.YtabfglmpnkgecaaGreatDoor.Q

/- Small general lemmas of this claim: rows of cells that a literal makes, read as a list; what is read in a block. -/
namespace Go.Proofs.YtabfglmpnkgecaaGreatDoor.X
open Go.RowKit Go.Proofs.YtabfglmpnkgecaaGreatDoorW.PrintWords Go.Proofs.YtabfglmpnkgecaaGreatDoorW.PrintLast Go.Proofs.YtabfglmpnkgecaaGreatDoorW.PrintMore Go.Proofs.YtabfglmpnkgecaaGreatDoor.Q

/-- A block of scalars is read as the list of them. -/
theorem C_scalars {α : Type} {enc : α → Value} {h1 : ∀ x, (enc x).oneCell' = true} (d : α) {w : World} {g : Nat} {e : TypeId} {xs : List α}
    (h : w.heap[g]? = some (.cells (xs.map enc).toArray e (0, 0))) (hn : xs.length ≤ 9223372036854775807) :
    (Kd.scalar enc h1).C w (some ⟨g, 0, none⟩) xs.length xs :=
  Kd.C_of_reads (d := d) ⟨rfl, hn, fun _ => ⟨_, rfl, fun j hj => by
    rw [add_plain, blk_cell h]
    simp [List.getD_eq_getElem?_getD, hj]⟩⟩

theorem flat_get {α : Type} (sz : Nat) : ∀ (l : List (α × List Value)) (_ : ∀ p ∈ l, p.2.length = sz) (j i : Nat) (p : α × List Value), l[j]? = some p → i < sz → (l.flatMap (·.2))[j * sz + i]? = p.2[i]?
  | [], _, j, i, p, h, _ => by simp at h
  | q :: l, hl, 0, i, p, h, hi => by
    obtain rfl : q = p := by simpa using h
    have := hl q (List.mem_cons_self)
    rw [List.flatMap_cons, Nat.zero_mul, Nat.zero_add, List.getElem?_append_left (by omega)]
  | q :: l, hl, j + 1, i, p, h, hi => by
    have hq := hl q (List.mem_cons_self)
    have ih := flat_get sz l (fun p hp => hl p (List.mem_cons_of_mem _ hp)) j i p (by simpa using h) hi
    rw [List.flatMap_cons, Nat.succ_mul, List.getElem?_append_right (by omega), hq]
    rw [show j * sz + sz + i - sz = j * sz + i by omega]
    exact ih
/-- A block of elements of several cells. -/
theorem C_rows {α : Type} (d : Kd α) {w : World} {g : Nat} {e : TypeId} (l : List (α × List Value)) {cells : List Value} (hc : l.flatMap (·.2) = cells)
    (h : w.heap[g]? = some (.cells cells.toArray e (0, 0))) (hK : ∀ p ∈ l, d.K w p.1 p.2) (hn : l.length ≤ 9223372036854775807) :
    d.C w (some ⟨g, 0, none⟩) l.length (l.map (·.1)) := by
  subst hc
  refine ⟨by simp, hn, fun _ => ⟨_, rfl, fun j p hj => ?_⟩⟩
  rw [List.getElem?_map] at hj
  cases hq : l[j]? with
  | none => rw [hq] at hj; cases hj
  | some q =>
    rw [hq] at hj
    obtain rfl : q.1 = p := by simpa using hj
    have hm : q ∈ l := List.mem_of_getElem? hq
    refine ⟨q.2, d.K_len (hK q hm), hK q hm, fun i u hu => ?_⟩
    rw [add_plain, blk_cell h]
    have hi : i < d.sz := by
      have := (List.getElem?_eq_some_iff.1 hu).1
      rw [d.K_len (hK q hm)] at this
      exact this
    simpa [flat_get d.sz l (fun p hp => d.K_len (hK p hp)) j i q hq hi] using hu

/-- The same, with the blocks that are read: all from base on. -/
theorem C_rowsF {α : Type} (d : Kd α) {w : World} {base g : Nat} {e : TypeId} (l : List (α × List Value)) {cells : List Value} (hc : l.flatMap (·.2) = cells)
    (h : w.heap[g]? = some (.cells cells.toArray e (0, 0))) (hg : base ≤ g) (hK : ∀ p ∈ l, Kd.FK d w (fun k => base ≤ k) p.1 p.2) (hn : l.length ≤ 9223372036854775807) :
    Kd.F d w (fun k => base ≤ k) (some ⟨g, 0, none⟩) l.length (l.map (·.1)) := fun W' hW =>
  C_rows d l hc ((hW g hg (blk_lt h)).trans h) (fun p hp => hK p hp W' hW) hn
theorem F_scalars {α : Type} {enc : α → Value} {h1 : ∀ x, (enc x).oneCell' = true} (d : α) {w : World} {base g : Nat} {e : TypeId} {xs : List α}
    (h : w.heap[g]? = some (.cells (xs.map enc).toArray e (0, 0))) (hg : base ≤ g) (hn : xs.length ≤ 9223372036854775807) :
    Kd.F (Kd.scalar enc h1) w (fun k => base ≤ k) (some ⟨g, 0, none⟩) xs.length xs := fun W' hW => C_scalars d ((hW g hg (blk_lt h)).trans h) hn

section
variable {P : Program} {ops : Array Oper} {rest : List Oper} {o : Oper} {a : Act} {Q : Exit → Act → World → Prop}
/-- A literal of texts: the world gets a letter. -/
theorem strs_event {W : World} {e : TypeId} (hgd : o.guard = none) {N : Tmp} (_hd : o.dst = some N) (ss : List ByteArray) (n : Nat) (hlen : ss.length = n) (hn : n ≤ 9223372036854775807)
    (hrun : (execOp a.eval o).run P W = .ok (.value (.slice (some ⟨W.heap.size, 0, none⟩) n n)) (W.alloc (.cells (ss.map Value.string).toArray e (0, 0))))
    (h : ∀ g, ∀ w1, Kd.F Kd.string w1 (fun k => W.heap.size ≤ k) (some ⟨g, 0, none⟩) n ss → Below W.heap.size W w1 → wpList P ops Q rest (a.put o.dst (.slice (some ⟨g, 0, none⟩) n n)) w1) : wpList P ops Q (o :: rest) a W := by
  subst hlen
  exact Kd.event_run hgd hrun (h _ _ (F_scalars (⟨#[]⟩ : ByteArray) (blk_new W _) (Nat.le_refl _) hn) (below_alloc (Below.refl _ _) _))
end

/-- Block g is o, and of what was there before nothing has turned. -/
def KeepS (g : Nat) (o : Obj) (w w' : World) : Prop := w'.heap[g]? = some o ∧ Below w.heap.size w w'
section
variable {g : Nat} {o : Obj} {w W W' : World}
theorem KeepS.below (h : KeepS g o w W) (hb : Below W.heap.size W W') : KeepS g o w W' := ⟨blk_below h.1 hb, below_step h.2 hb⟩
theorem KeepS.alloc (h : KeepS g o w W) (o' : Obj) : KeepS g o w (W.alloc o') := ⟨blk_alloc h.1 o', below_alloc h.2 o'⟩
theorem KeepS.drew (h : KeepS g o w W) : KeepS g o w W.drew := ⟨h.1, below_drew h.2⟩
theorem KeepS.drewN (h : KeepS g o w W) (n : Nat) : KeepS g o w (W.drewN n) := ⟨h.1, pw_below_drewN h.2 n⟩
theorem KeepS.far (h : KeepS g o w W) {p : Addr} (hp : g ≠ p.block) (hw : w.heap.size ≤ p.block) (v : Value) : KeepS g o w (W.setCell p v) :=
  ⟨(Below.heap_setCell W p v g hp).trans h.1, h.2.setCell hw v⟩
end
end Go.Proofs.YtabfglmpnkgecaaGreatDoor.X

/- Small lemmas on a block of eight cells. -/
namespace Go.Proofs.YtabfglmpnkgecaaGreatDoor.X
open Go.RowKit Go.Proofs.YtabfglmpnkgecaaGreatDoorW.PrintWords Go.Proofs.YtabfglmpnkgecaaGreatDoorW.PrintLast Go.Proofs.YtabfglmpnkgecaaGreatDoorW.PrintMore Go.Proofs.YtabfglmpnkgecaaGreatDoor.Q

theorem put8 {W : World} {b T : Nat} {a0 a1 a2 a3 a4 a5 a6 a7 : Value} (h : W.heap[b]? = some (.cells #[a0, a1, a2, a3, a4, a5, a6, a7] T (0, 0))) (v0 v1 v2 v3 v4 v5 v6 v7 : Value) :
    ((((((((W.setCell ⟨b, 0, none⟩ v0).setCell ⟨b, 1, none⟩ v1).setCell ⟨b, 2, none⟩ v2).setCell ⟨b, 3, none⟩ v3).setCell ⟨b, 4, none⟩ v4).setCell ⟨b, 5, none⟩ v5).setCell ⟨b, 6, none⟩ v6).setCell ⟨b, 7, none⟩ v7).heap[b]? = some (.cells #[v0, v1, v2, v3, v4, v5, v6, v7] T (0, 0)) := by
  have h0 := blk_put (cs := #[a0, a1, a2, a3, a4, a5, a6, a7]) h 0 v0 (cs' := #[v0, a1, a2, a3, a4, a5, a6, a7]) rfl
  have h1 := blk_put (cs := #[v0, a1, a2, a3, a4, a5, a6, a7]) h0 1 v1 (cs' := #[v0, v1, a2, a3, a4, a5, a6, a7]) rfl
  have h2 := blk_put (cs := #[v0, v1, a2, a3, a4, a5, a6, a7]) h1 2 v2 (cs' := #[v0, v1, v2, a3, a4, a5, a6, a7]) rfl
  have h3 := blk_put (cs := #[v0, v1, v2, a3, a4, a5, a6, a7]) h2 3 v3 (cs' := #[v0, v1, v2, v3, a4, a5, a6, a7]) rfl
  have h4 := blk_put (cs := #[v0, v1, v2, v3, a4, a5, a6, a7]) h3 4 v4 (cs' := #[v0, v1, v2, v3, v4, a5, a6, a7]) rfl
  have h5 := blk_put (cs := #[v0, v1, v2, v3, v4, a5, a6, a7]) h4 5 v5 (cs' := #[v0, v1, v2, v3, v4, v5, a6, a7]) rfl
  have h6 := blk_put (cs := #[v0, v1, v2, v3, v4, v5, a6, a7]) h5 6 v6 (cs' := #[v0, v1, v2, v3, v4, v5, v6, a7]) rfl
  have h7 := blk_put (cs := #[v0, v1, v2, v3, v4, v5, v6, a7]) h6 7 v7 (cs' := #[v0, v1, v2, v3, v4, v5, v6, v7]) rfl
  exact h7
theorem below_put8 {w W : World} {b : Nat} (h : Below w.heap.size w W) (hb : w.heap.size ≤ b) (v0 v1 v2 v3 v4 v5 v6 v7 : Value) :
    Below w.heap.size w ((((((((W.setCell ⟨b, 0, none⟩ v0).setCell ⟨b, 1, none⟩ v1).setCell ⟨b, 2, none⟩ v2).setCell ⟨b, 3, none⟩ v3).setCell ⟨b, 4, none⟩ v4).setCell ⟨b, 5, none⟩ v5).setCell ⟨b, 6, none⟩ v6).setCell ⟨b, 7, none⟩ v7) :=
  below_set (below_set (below_set (below_set (below_set (below_set (below_set (below_set h hb) hb) hb) hb) hb) hb) hb) hb
theorem V_put8 {α : Type} {d : Kd α} {e base b : Nat} {W : World} {ok : Nat → Prop} {v : Value} {xs : List α} (h : Kd.V d e W base ok v xs) (hok : ∀ k, ok k → k ≠ b) (v0 v1 v2 v3 v4 v5 v6 v7 : Value) :
    Kd.V d e ((((((((W.setCell ⟨b, 0, none⟩ v0).setCell ⟨b, 1, none⟩ v1).setCell ⟨b, 2, none⟩ v2).setCell ⟨b, 3, none⟩ v3).setCell ⟨b, 4, none⟩ v4).setCell ⟨b, 5, none⟩ v5).setCell ⟨b, 6, none⟩ v6).setCell ⟨b, 7, none⟩ v7) base ok v xs :=
  Kd.V_far (Kd.V_far (Kd.V_far (Kd.V_far (Kd.V_far (Kd.V_far (Kd.V_far (Kd.V_far h hok v0) hok v1) hok v2) hok v3) hok v4) hok v5) hok v6) hok v7
theorem far8 {W : World} {b g : Nat} (h : g ≠ b) (v0 v1 v2 v3 v4 v5 v6 v7 : Value) : ((((((((W.setCell ⟨b, 0, none⟩ v0).setCell ⟨b, 1, none⟩ v1).setCell ⟨b, 2, none⟩ v2).setCell ⟨b, 3, none⟩ v3).setCell ⟨b, 4, none⟩ v4).setCell ⟨b, 5, none⟩ v5).setCell ⟨b, 6, none⟩ v6).setCell ⟨b, 7, none⟩ v7).heap[g]? = W.heap[g]? :=
  (Below.heap_setCell _ _ _ _ h).trans ((Below.heap_setCell _ _ _ _ h).trans ((Below.heap_setCell _ _ _ _ h).trans ((Below.heap_setCell _ _ _ _ h).trans ((Below.heap_setCell _ _ _ _ h).trans ((Below.heap_setCell _ _ _ _ h).trans ((Below.heap_setCell _ _ _ _ h).trans (Below.heap_setCell _ _ _ _ h)))))))
theorem F_setCell {α : Type} {d : Kd α} {w : World} {ok : Nat → Prop} {A : Option Addr} {n : Nat} {xs : List α} (h : Kd.F d w ok A n xs) (p : Addr) (v : Value) (hp : ∀ k, ok k → k ≠ p.block) : Kd.F d (w.setCell p v) ok A n xs := fun W' hW =>
  h W' (fun k hk hlt => (hW k hk (by rw [World.size_setCell]; exact hlt)).trans (Below.heap_setCell _ _ _ _ (hp k hk)))
theorem F_alloc {α : Type} {d : Kd α} {w : World} {ok : Nat → Prop} {A : Option Addr} {n : Nat} {xs : List α} (h : Kd.F d w ok A n xs) (o : Obj) : Kd.F d (w.alloc o) ok A n xs := fun W' hW =>
  h W' (fun k hk hlt => (hW k hk (by rw [World.size_alloc]; omega)).trans (Below.heap_alloc _ _ _ hlt))
theorem below_low {B C : Nat} {w W W1 : World} (h : Below B w W) (h1 : Below C W W1) (hBC : B ≤ C) : Below B w W1 :=
  ⟨h1.os.trans h.os, h1.tape.trans h.tape, h1.output.trans h.output, Nat.le_trans h.size h1.size, fun k hk => (h1.block k (Nat.lt_of_lt_of_le hk hBC)).trans (h.block k hk)⟩
theorem below_putB {w W : World} {B b : Nat} (h : Below B w W) (hb : B ≤ b) (v0 v1 v2 v3 v4 v5 v6 v7 : Value) :
    Below B w ((((((((W.setCell ⟨b, 0, none⟩ v0).setCell ⟨b, 1, none⟩ v1).setCell ⟨b, 2, none⟩ v2).setCell ⟨b, 3, none⟩ v3).setCell ⟨b, 4, none⟩ v4).setCell ⟨b, 5, none⟩ v5).setCell ⟨b, 6, none⟩ v6).setCell ⟨b, 7, none⟩ v7) := by
  refine Below.setCell (Below.setCell (Below.setCell (Below.setCell (Below.setCell (Below.setCell (Below.setCell (Below.setCell h ?_ _) ?_ _) ?_ _) ?_ _) ?_ _) ?_ _) ?_ _) ?_ _ <;> exact hb
end Go.Proofs.YtabfglmpnkgecaaGreatDoor.X
