/- The leaves of the reference's tree: intNode, noneNode, floatNode, recordNode. -/
import Derived.Test.YtabfglmpnkgecaaGreatDoorM01
set_option linter.unusedVariables false
set_option linter.unusedSimpArgs false
namespace Go.Proofs.YtabfglmpnkgecaaGreatDoor.X
open Go.RowKit Go.Proofs.YtabfglmpnkgecaaGreatDoorW.PrintWords Go.Proofs.YtabfglmpnkgecaaGreatDoorW.PrintLast Go.Proofs.YtabfglmpnkgecaaGreatDoorW.PrintMore Go.Proofs.YtabfglmpnkgecaaGreatDoor.Q
attribute [local go_sem] run_store_float

def intN (name : ByteArray) (i : Int) : S39 := ⟨name, 2, false, i, 0, (0 : Nat), ⟨#[]⟩, []⟩
def noneN (name : ByteArray) : S39 := ⟨name, 0, false, 0, 0, (0 : Nat), ⟨#[]⟩, []⟩
def floatN (name : ByteArray) (f : Nat) : S39 := ⟨name, 4, false, 0, 0, f, ⟨#[]⟩, []⟩
def recN (name : ByteArray) (kids : List S39) : S39 := ⟨name, 8, false, 0, 0, (0 : Nat), ⟨#[]⟩, kids⟩
/-- The cells of a node whose kids are there. -/
def cells8 (x : S39) (A : Option Addr) (n c : Nat) : Array Value := #[.string x.f0, .int .i64 x.f1, .bool x.f2, .int .i64 x.f3, .int .u64 x.f4, .float .f64 x.f5, .string x.f6, .slice A n c]
def zero8 : Array Value := #[.string ⟨#[]⟩, .int .i64 0, .bool false, .int .i64 0, .int .u64 0, .float .f64 0, .string ⟨#[]⟩, .slice none 0 0]
set_option maxHeartbeats 4000000 in
set_option maxRecDepth 100000 in
theorem intX (name : ByteArray) (i : Int) (w : World) :
    Calls Tryz.prog 29 #[.string name, .int .i64 i] w fun e w' => e = .returned (.agg (cells8 (intN name i) none 0 0)) ∧ Below w.heap.size w w' := by
  have hu39 := Tryz.underlying39
  go_enter Tryz.func29, Tryz.ntmps29
  go_wp2
  refine bodyPost_ret (results_cell_row rfl _ _ w.heap.size 39 _ (0, 0) _ rfl (blk_new w _) hu39 rfl (by kernel_rfl)) rfl ?_
  exact ⟨rfl, below_alloc (Below.refl _ w) _⟩
set_option maxHeartbeats 4000000 in
set_option maxRecDepth 100000 in
theorem noneX (name : ByteArray) (w : World) :
    Calls Tryz.prog 30 #[.string name] w fun e w' => e = .returned (.agg (cells8 (noneN name) none 0 0)) ∧ Below w.heap.size w w' := by
  have hu39 := Tryz.underlying39
  go_enter Tryz.func30, Tryz.ntmps30
  go_wp2
  refine bodyPost_ret (results_cell_row rfl _ _ w.heap.size 39 _ (0, 0) _ rfl (blk_new w _) hu39 rfl (by kernel_rfl)) rfl ?_
  exact ⟨rfl, below_alloc (Below.refl _ w) _⟩
set_option maxHeartbeats 4000000 in
set_option maxRecDepth 100000 in
theorem floatX (name : ByteArray) (f : Nat) (w : World) :
    Calls Tryz.prog 31 #[.string name, .float .f64 f] w fun e w' => e = .returned (.agg (cells8 (floatN name f) none 0 0)) ∧ Below w.heap.size w w' := by
  have hu39 := Tryz.underlying39
  go_enter Tryz.func31, Tryz.ntmps31
  go_wp2
  refine bodyPost_ret (results_cell_row rfl _ _ w.heap.size 39 _ (0, 0) _ rfl (blk_new w _) hu39 rfl (by kernel_rfl)) rfl ?_
  exact ⟨rfl, below_alloc (Below.refl _ w) _⟩
set_option maxHeartbeats 4000000 in
set_option maxRecDepth 100000 in
theorem recX (name : ByteArray) (A : Option Addr) (n c : Nat) (kids : List S39) (w : World) :
    Calls Tryz.prog 32 #[.string name, .slice A n c] w fun e w' => e = .returned (.agg (cells8 (recN name kids) A n c)) ∧ Below w.heap.size w w' := by
  have hu39 := Tryz.underlying39
  go_enter Tryz.func32, Tryz.ntmps32
  go_wp2
  refine bodyPost_ret (results_cell_row rfl _ _ w.heap.size 39 _ (0, 0) _ rfl (blk_new w _) hu39 rfl (by kernel_rfl)) rfl ?_
  exact ⟨rfl, below_alloc (Below.refl _ w) _⟩
/-- A leaf's cells say the leaf. -/
theorem leaf_FK (W : World) (ok : Nat → Prop) (x : S39) (hx : x.f7 = []) : Kd.FK k39 W ok x (cells8 x none 0 0).toList := by
  have h := k39_mkF W ok x (A7 := none) (c7 := 0) (by rw [hx]; exact Nat.le_refl 0) (by rw [hx]; exact Kd.F_nil k39 W ok)
  rw [hx] at h
  exact h
end Go.Proofs.YtabfglmpnkgecaaGreatDoor.X

/- The names of the two groups; what snmpNames answers at their labels. (Written by a program of this claim.) -/
namespace Go.Proofs.YtabfglmpnkgecaaGreatDoor.Q
open Go.RowKit Go.Proofs.YtabfglmpnkgecaaGreatDoorW.PrintWords Go.Proofs.YtabfglmpnkgecaaGreatDoorW.PrintLast Go.Proofs.YtabfglmpnkgecaaGreatDoorW.PrintMore
def tcpNames : List ByteArray := [⟨#[83, 121, 110, 99, 111, 111, 107, 105, 101, 115, 83, 101, 110, 116]⟩, ⟨#[83, 121, 110, 99, 111, 111, 107, 105, 101, 115, 82, 101, 99, 118]⟩, ⟨#[83, 121, 110, 99, 111, 111, 107, 105, 101, 115, 70, 97, 105, 108, 101, 100]⟩, ⟨#[69, 109, 98, 114, 121, 111, 110, 105, 99, 82, 115, 116, 115]⟩, ⟨#[80, 114, 117, 110, 101, 67, 97, 108, 108, 101, 100]⟩, ⟨#[82, 99, 118, 80, 114, 117, 110, 101, 100]⟩, ⟨#[79, 102, 111, 80, 114, 117, 110, 101, 100]⟩, ⟨#[79, 117, 116, 79, 102, 87, 105, 110, 100, 111, 119, 73, 99, 109, 112, 115]⟩, ⟨#[76, 111, 99, 107, 68, 114, 111, 112, 112, 101, 100, 73, 99, 109, 112, 115]⟩, ⟨#[65, 114, 112, 70, 105, 108, 116, 101, 114]⟩, ⟨#[84, 87]⟩, ⟨#[84, 87, 82, 101, 99, 121, 99, 108, 101, 100]⟩, ⟨#[84, 87, 75, 105, 108, 108, 101, 100]⟩, ⟨#[80, 65, 87, 83, 65, 99, 116, 105, 118, 101]⟩, ⟨#[80, 65, 87, 83, 69, 115, 116, 97, 98]⟩, ⟨#[68, 101, 108, 97, 121, 101, 100, 65, 67, 75, 115]⟩, ⟨#[68, 101, 108, 97, 121, 101, 100, 65, 67, 75, 76, 111, 99, 107, 101, 100]⟩, ⟨#[68, 101, 108, 97, 121, 101, 100, 65, 67, 75, 76, 111, 115, 116]⟩, ⟨#[76, 105, 115, 116, 101, 110, 79, 118, 101, 114, 102, 108, 111, 119, 115]⟩, ⟨#[76, 105, 115, 116, 101, 110, 68, 114, 111, 112, 115]⟩, ⟨#[84, 67, 80, 72, 80, 72, 105, 116, 115]⟩, ⟨#[84, 67, 80, 80, 117, 114, 101, 65, 99, 107, 115]⟩, ⟨#[84, 67, 80, 72, 80, 65, 99, 107, 115]⟩, ⟨#[84, 67, 80, 82, 101, 110, 111, 82, 101, 99, 111, 118, 101, 114, 121]⟩, ⟨#[84, 67, 80, 83, 97, 99, 107, 82, 101, 99, 111, 118, 101, 114, 121]⟩, ⟨#[84, 67, 80, 83, 65, 67, 75, 82, 101, 110, 101, 103, 105, 110, 103]⟩, ⟨#[84, 67, 80, 83, 65, 67, 75, 82, 101, 111, 114, 100, 101, 114]⟩, ⟨#[84, 67, 80, 82, 101, 110, 111, 82, 101, 111, 114, 100, 101, 114]⟩, ⟨#[84, 67, 80, 84, 83, 82, 101, 111, 114, 100, 101, 114]⟩, ⟨#[84, 67, 80, 70, 117, 108, 108, 85, 110, 100, 111]⟩, ⟨#[84, 67, 80, 80, 97, 114, 116, 105, 97, 108, 85, 110, 100, 111]⟩, ⟨#[84, 67, 80, 68, 83, 65, 67, 75, 85, 110, 100, 111]⟩, ⟨#[84, 67, 80, 76, 111, 115, 115, 85, 110, 100, 111]⟩, ⟨#[84, 67, 80, 76, 111, 115, 116, 82, 101, 116, 114, 97, 110, 115, 109, 105, 116]⟩, ⟨#[84, 67, 80, 82, 101, 110, 111, 70, 97, 105, 108, 117, 114, 101, 115]⟩, ⟨#[84, 67, 80, 83, 97, 99, 107, 70, 97, 105, 108, 117, 114, 101, 115]⟩, ⟨#[84, 67, 80, 76, 111, 115, 115, 70, 97, 105, 108, 117, 114, 101, 115]⟩, ⟨#[84, 67, 80, 70, 97, 115, 116, 82, 101, 116, 114, 97, 110, 115]⟩, ⟨#[84, 67, 80, 83, 108, 111, 119, 83, 116, 97, 114, 116, 82, 101, 116, 114, 97, 110, 115]⟩, ⟨#[84, 67, 80, 84, 105, 109, 101, 111, 117, 116, 115]⟩, ⟨#[84, 67, 80, 76, 111, 115, 115, 80, 114, 111, 98, 101, 115]⟩, ⟨#[84, 67, 80, 76, 111, 115, 115, 80, 114, 111, 98, 101, 82, 101, 99, 111, 118, 101, 114, 121]⟩, ⟨#[84, 67, 80, 82, 101, 110, 111, 82, 101, 99, 111, 118, 101, 114, 121, 70, 97, 105, 108]⟩, ⟨#[84, 67, 80, 83, 97, 99, 107, 82, 101, 99, 111, 118, 101, 114, 121, 70, 97, 105, 108]⟩, ⟨#[84, 67, 80, 82, 99, 118, 67, 111, 108, 108, 97, 112, 115, 101, 100]⟩, ⟨#[84, 67, 80, 68, 83, 65, 67, 75, 79, 108, 100, 83, 101, 110, 116]⟩, ⟨#[84, 67, 80, 68, 83, 65, 67, 75, 79, 102, 111, 83, 101, 110, 116]⟩, ⟨#[84, 67, 80, 68, 83, 65, 67, 75, 82, 101, 99, 118]⟩, ⟨#[84, 67, 80, 68, 83, 65, 67, 75, 79, 102, 111, 82, 101, 99, 118]⟩, ⟨#[84, 67, 80, 65, 98, 111, 114, 116, 79, 110, 68, 97, 116, 97]⟩, ⟨#[84, 67, 80, 65, 98, 111, 114, 116, 79, 110, 67, 108, 111, 115, 101]⟩, ⟨#[84, 67, 80, 65, 98, 111, 114, 116, 79, 110, 77, 101, 109, 111, 114, 121]⟩, ⟨#[84, 67, 80, 65, 98, 111, 114, 116, 79, 110, 84, 105, 109, 101, 111, 117, 116]⟩, ⟨#[84, 67, 80, 65, 98, 111, 114, 116, 79, 110, 76, 105, 110, 103, 101, 114]⟩, ⟨#[84, 67, 80, 65, 98, 111, 114, 116, 70, 97, 105, 108, 101, 100]⟩, ⟨#[84, 67, 80, 77, 101, 109, 111, 114, 121, 80, 114, 101, 115, 115, 117, 114, 101, 115]⟩, ⟨#[84, 67, 80, 77, 101, 109, 111, 114, 121, 80, 114, 101, 115, 115, 117, 114, 101, 115, 67, 104, 114, 111, 110, 111]⟩, ⟨#[84, 67, 80, 83, 65, 67, 75, 68, 105, 115, 99, 97, 114, 100]⟩, ⟨#[84, 67, 80, 68, 83, 65, 67, 75, 73, 103, 110, 111, 114, 101, 100, 79, 108, 100]⟩, ⟨#[84, 67, 80, 68, 83, 65, 67, 75, 73, 103, 110, 111, 114, 101, 100, 78, 111, 85, 110, 100, 111]⟩, ⟨#[84, 67, 80, 83, 112, 117, 114, 105, 111, 117, 115, 82, 84, 79, 115]⟩, ⟨#[84, 67, 80, 77, 68, 53, 78, 111, 116, 70, 111, 117, 110, 100]⟩, ⟨#[84, 67, 80, 77, 68, 53, 85, 110, 101, 120, 112, 101, 99, 116, 101, 100]⟩, ⟨#[84, 67, 80, 77, 68, 53, 70, 97, 105, 108, 117, 114, 101]⟩, ⟨#[84, 67, 80, 83, 97, 99, 107, 83, 104, 105, 102, 116, 101, 100]⟩, ⟨#[84, 67, 80, 83, 97, 99, 107, 77, 101, 114, 103, 101, 100]⟩, ⟨#[84, 67, 80, 83, 97, 99, 107, 83, 104, 105, 102, 116, 70, 97, 108, 108, 98, 97, 99, 107]⟩, ⟨#[84, 67, 80, 66, 97, 99, 107, 108, 111, 103, 68, 114, 111, 112]⟩, ⟨#[80, 70, 77, 101, 109, 97, 108, 108, 111, 99, 68, 114, 111, 112]⟩, ⟨#[84, 67, 80, 77, 105, 110, 84, 84, 76, 68, 114, 111, 112]⟩, ⟨#[84, 67, 80, 68, 101, 102, 101, 114, 65, 99, 99, 101, 112, 116, 68, 114, 111, 112]⟩, ⟨#[73, 80, 82, 101, 118, 101, 114, 115, 101, 80, 97, 116, 104, 70, 105, 108, 116, 101, 114]⟩, ⟨#[84, 67, 80, 84, 105, 109, 101, 87, 97, 105, 116, 79, 118, 101, 114, 102, 108, 111, 119]⟩, ⟨#[84, 67, 80, 82, 101, 113, 81, 70, 117, 108, 108, 68, 111, 67, 111, 111, 107, 105, 101, 115]⟩, ⟨#[84, 67, 80, 82, 101, 113, 81, 70, 117, 108, 108, 68, 114, 111, 112]⟩, ⟨#[84, 67, 80, 82, 101, 116, 114, 97, 110, 115, 70, 97, 105, 108]⟩, ⟨#[84, 67, 80, 82, 99, 118, 67, 111, 97, 108, 101, 115, 99, 101]⟩, ⟨#[84, 67, 80, 82, 99, 118, 81, 68, 114, 111, 112]⟩, ⟨#[84, 67, 80, 79, 70, 79, 81, 117, 101, 117, 101]⟩, ⟨#[84, 67, 80, 79, 70, 79, 68, 114, 111, 112]⟩, ⟨#[84, 67, 80, 79, 70, 79, 77, 101, 114, 103, 101]⟩, ⟨#[84, 67, 80, 67, 104, 97, 108, 108, 101, 110, 103, 101, 65, 67, 75]⟩, ⟨#[84, 67, 80, 83, 89, 78, 67, 104, 97, 108, 108, 101, 110, 103, 101]⟩, ⟨#[84, 67, 80, 70, 97, 115, 116, 79, 112, 101, 110, 65, 99, 116, 105, 118, 101]⟩, ⟨#[84, 67, 80, 70, 97, 115, 116, 79, 112, 101, 110, 65, 99, 116, 105, 118, 101, 70, 97, 105, 108]⟩, ⟨#[84, 67, 80, 70, 97, 115, 116, 79, 112, 101, 110, 80, 97, 115, 115, 105, 118, 101]⟩, ⟨#[84, 67, 80, 70, 97, 115, 116, 79, 112, 101, 110, 80, 97, 115, 115, 105, 118, 101, 70, 97, 105, 108]⟩, ⟨#[84, 67, 80, 70, 97, 115, 116, 79, 112, 101, 110, 76, 105, 115, 116, 101, 110, 79, 118, 101, 114, 102, 108, 111, 119]⟩, ⟨#[84, 67, 80, 70, 97, 115, 116, 79, 112, 101, 110, 67, 111, 111, 107, 105, 101, 82, 101, 113, 100]⟩, ⟨#[84, 67, 80, 70, 97, 115, 116, 79, 112, 101, 110, 66, 108, 97, 99, 107, 104, 111, 108, 101]⟩, ⟨#[84, 67, 80, 83, 112, 117, 114, 105, 111, 117, 115, 82, 116, 120, 72, 111, 115, 116, 81, 117, 101, 117, 101, 115]⟩, ⟨#[66, 117, 115, 121, 80, 111, 108, 108, 82, 120, 80, 97, 99, 107, 101, 116, 115]⟩, ⟨#[84, 67, 80, 65, 117, 116, 111, 67, 111, 114, 107, 105, 110, 103]⟩, ⟨#[84, 67, 80, 70, 114, 111, 109, 90, 101, 114, 111, 87, 105, 110, 100, 111, 119, 65, 100, 118]⟩, ⟨#[84, 67, 80, 84, 111, 90, 101, 114, 111, 87, 105, 110, 100, 111, 119, 65, 100, 118]⟩, ⟨#[84, 67, 80, 87, 97, 110, 116, 90, 101, 114, 111, 87, 105, 110, 100, 111, 119, 65, 100, 118]⟩, ⟨#[84, 67, 80, 83, 121, 110, 82, 101, 116, 114, 97, 110, 115]⟩, ⟨#[84, 67, 80, 79, 114, 105, 103, 68, 97, 116, 97, 83, 101, 110, 116]⟩, ⟨#[84, 67, 80, 72, 121, 115, 116, 97, 114, 116, 84, 114, 97, 105, 110, 68, 101, 116, 101, 99, 116]⟩, ⟨#[84, 67, 80, 72, 121, 115, 116, 97, 114, 116, 84, 114, 97, 105, 110, 67, 119, 110, 100]⟩, ⟨#[84, 67, 80, 72, 121, 115, 116, 97, 114, 116, 68, 101, 108, 97, 121, 68, 101, 116, 101, 99, 116]⟩, ⟨#[84, 67, 80, 72, 121, 115, 116, 97, 114, 116, 68, 101, 108, 97, 121, 67, 119, 110, 100]⟩, ⟨#[84, 67, 80, 65, 67, 75, 83, 107, 105, 112, 112, 101, 100, 83, 121, 110, 82, 101, 99, 118]⟩, ⟨#[84, 67, 80, 65, 67, 75, 83, 107, 105, 112, 112, 101, 100, 80, 65, 87, 83]⟩, ⟨#[84, 67, 80, 65, 67, 75, 83, 107, 105, 112, 112, 101, 100, 83, 101, 113]⟩, ⟨#[84, 67, 80, 65, 67, 75, 83, 107, 105, 112, 112, 101, 100, 70, 105, 110, 87, 97, 105, 116, 50]⟩, ⟨#[84, 67, 80, 65, 67, 75, 83, 107, 105, 112, 112, 101, 100, 84, 105, 109, 101, 87, 97, 105, 116]⟩, ⟨#[84, 67, 80, 65, 67, 75, 83, 107, 105, 112, 112, 101, 100, 67, 104, 97, 108, 108, 101, 110, 103, 101]⟩, ⟨#[84, 67, 80, 87, 105, 110, 80, 114, 111, 98, 101]⟩, ⟨#[84, 67, 80, 75, 101, 101, 112, 65, 108, 105, 118, 101]⟩, ⟨#[84, 67, 80, 77, 84, 85, 80, 70, 97, 105, 108]⟩, ⟨#[84, 67, 80, 77, 84, 85, 80, 83, 117, 99, 99, 101, 115, 115]⟩, ⟨#[84, 67, 80, 87, 113, 117, 101, 117, 101, 84, 111, 111, 66, 105, 103]⟩, ⟨#[84, 67, 80, 76, 111, 115, 115]⟩, ⟨#[80, 65, 87, 83, 80, 97, 115, 115, 105, 118, 101]⟩, ⟨#[84, 67, 80, 70, 111, 114, 119, 97, 114, 100, 82, 101, 116, 114, 97, 110, 115]⟩, ⟨#[84, 67, 80, 83, 99, 104, 101, 100, 117, 108, 101, 114, 70, 97, 105, 108, 101, 100]⟩, ⟨#[84, 67, 80, 80, 114, 101, 113, 117, 101, 117, 101, 100]⟩, ⟨#[84, 67, 80, 68, 105, 114, 101, 99, 116, 67, 111, 112, 121, 70, 114, 111, 109, 66, 97, 99, 107, 108, 111, 103]⟩, ⟨#[84, 67, 80, 68, 105, 114, 101, 99, 116, 67, 111, 112, 121, 70, 114, 111, 109, 80, 114, 101, 113, 117, 101, 117, 101]⟩, ⟨#[84, 67, 80, 80, 114, 101, 113, 117, 101, 117, 101, 68, 114, 111, 112, 112, 101, 100]⟩, ⟨#[84, 67, 80, 70, 65, 67, 75, 82, 101, 111, 114, 100, 101, 114]⟩, ⟨#[84, 67, 80, 72, 80, 72, 105, 116, 115, 84, 111, 85, 115, 101, 114]⟩]
def ipNames : List ByteArray := [⟨#[73, 110, 78, 111, 82, 111, 117, 116, 101, 115]⟩, ⟨#[73, 110, 84, 114, 117, 110, 99, 97, 116, 101, 100, 80, 107, 116, 115]⟩, ⟨#[73, 110, 77, 99, 97, 115, 116, 80, 107, 116, 115]⟩, ⟨#[79, 117, 116, 77, 99, 97, 115, 116, 80, 107, 116, 115]⟩, ⟨#[73, 110, 66, 99, 97, 115, 116, 80, 107, 116, 115]⟩, ⟨#[79, 117, 116, 66, 99, 97, 115, 116, 80, 107, 116, 115]⟩, ⟨#[73, 110, 79, 99, 116, 101, 116, 115]⟩, ⟨#[79, 117, 116, 79, 99, 116, 101, 116, 115]⟩, ⟨#[73, 110, 77, 99, 97, 115, 116, 79, 99, 116, 101, 116, 115]⟩, ⟨#[79, 117, 116, 77, 99, 97, 115, 116, 79, 99, 116, 101, 116, 115]⟩, ⟨#[73, 110, 66, 99, 97, 115, 116, 79, 99, 116, 101, 116, 115]⟩, ⟨#[79, 117, 116, 66, 99, 97, 115, 116, 79, 99, 116, 101, 116, 115]⟩, ⟨#[73, 110, 67, 115, 117, 109, 69, 114, 114, 111, 114, 115]⟩, ⟨#[73, 110, 78, 111, 69, 67, 84, 80, 107, 116, 115]⟩, ⟨#[73, 110, 69, 67, 84, 49, 80, 107, 116, 115]⟩, ⟨#[73, 110, 69, 67, 84, 48, 80, 107, 116, 115]⟩, ⟨#[73, 110, 67, 69, 80, 107, 116, 115]⟩, ⟨#[82, 101, 97, 115, 109, 79, 118, 101, 114, 108, 97, 112, 115]⟩]
def tcpL : List UInt8 := [84, 99, 112, 69, 120, 116]
def ipL : List UInt8 := [73, 112, 69, 120, 116]
def spec_snmpNames.f (a0 : ByteArray) : Option (List ByteArray) := if a0.toList = tcpL then some tcpNames else if a0.toList = ipL then some ipNames else none
theorem reps_strs {w : World} {b : Nat} {ok : Nat → Prop} (xs : List ByteArray) : Reps (Kd.string.M w b ok) 1 xs (xs.map Value.string) := by
  refine ⟨by simp, fun j p h => ?_⟩
  have e : ((xs.map Value.string).drop (j * 1)).take 1 = [.string p] := by
    obtain ⟨hj, hp⟩ := List.getElem?_eq_some_iff.1 h
    rw [Nat.mul_one, List.drop_eq_getElem_cons (by simpa using hj), List.take_succ_cons, List.take_zero, List.getElem_map, hp]
  rw [e]
  exact (rfl : Kd.string.M w b ok p [.string p])
theorem R_strs (xs : List ByteArray) (W : World) (hm : xs.length ≤ 9223372036854775807) :
    Kd.R Kd.string 9 (W.alloc (.cells (xs.map Value.string).toArray 9)) W.heap.size (fun _ => True) (.slice (some ⟨W.heap.size, 0, none⟩) xs.length xs.length) xs := by
  refine ⟨fun k hk => trivial, xs.map Value.string, ?_, ?_⟩
  · have h2 := World.ownsRow_lit (base := W.heap.size) (e := 9) (size := 1) W (xs.map Value.string).toArray xs.length (Nat.le_refl _) (by simpa [maxLen] using hm) (by simp)
    have h3 : (W.alloc (Obj.cells (xs.map Value.string).toArray 9)).ownsRow W.heap.size 9 1 (.slice (some ⟨W.heap.size, 0, none⟩) xs.length xs.length) xs.length (xs.map Value.string) := by simpa using h2
    exact h3
  · exact (reps_strs (w := W.alloc (.cells (xs.map Value.string).toArray 9)) xs)
set_option maxHeartbeats 8000000 in
set_option maxRecDepth 100000 in
theorem names_tcpNames (a0 : ByteArray) (w : World) (c : a0.toList = tcpL) :
    Calls Tryz.prog 25 #[.string a0] w fun e w' => ∃ v0_ : Value, e = .returned (v0_) ∧ Kd.R Kd.string 9 w' w.heap.size (fun _ => True) v0_ tcpNames ∧ Below w.heap.size w w' := by
  have e0 : (a0.toList == ([73, 112] : List UInt8)) = false := by rw [c]; rfl
  have e1 : (a0.toList == ([73, 99, 109, 112] : List UInt8)) = false := by rw [c]; rfl
  have e2 : (a0.toList == ([73, 99, 109, 112, 77, 115, 103] : List UInt8)) = false := by rw [c]; rfl
  have e3 : (a0.toList == ([84, 99, 112] : List UInt8)) = false := by rw [c]; rfl
  have e4 : (a0.toList == ([85, 100, 112] : List UInt8)) = false := by rw [c]; rfl
  have e5 : (a0.toList == ([85, 100, 112, 76, 105, 116, 101] : List UInt8)) = false := by rw [c]; rfl
  have e6 : (a0.toList == ([73, 112, 54] : List UInt8)) = false := by rw [c]; rfl
  have e7 : (a0.toList == ([73, 99, 109, 112, 54] : List UInt8)) = false := by rw [c]; rfl
  have e8 : (a0.toList == ([85, 100, 112, 54] : List UInt8)) = false := by rw [c]; rfl
  have e9 : (a0.toList == ([85, 100, 112, 76, 105, 116, 101, 54] : List UInt8)) = false := by rw [c]; rfl
  have e10 : (a0.toList == ([84, 99, 112, 69, 120, 116] : List UInt8)) = true := by rw [c]; rfl
  clear c
  go_enter Tryz.func25, Tryz.ntmps25
  go_wp2_with ((with_reducible refine gate_dst (N := 36) rfl ?_); refine Kd.event_run (v := .slice (some ⟨w.heap.size, 0, none⟩) 123 123) (w1 := w.alloc (.cells (tcpNames.map Value.string).toArray 9)) rfl (by kernel_rfl) ?_)
  go_ret
  exact ⟨_, rfl, R_strs tcpNames w (by decide), below_alloc (Below.refl _ _) _⟩
set_option maxHeartbeats 8000000 in
set_option maxRecDepth 100000 in
theorem names_ipNames (a0 : ByteArray) (w : World) (c : a0.toList = ipL) :
    Calls Tryz.prog 25 #[.string a0] w fun e w' => ∃ v0_ : Value, e = .returned (v0_) ∧ Kd.R Kd.string 9 w' w.heap.size (fun _ => True) v0_ ipNames ∧ Below w.heap.size w w' := by
  have e0 : (a0.toList == ([73, 112] : List UInt8)) = false := by rw [c]; rfl
  have e1 : (a0.toList == ([73, 99, 109, 112] : List UInt8)) = false := by rw [c]; rfl
  have e2 : (a0.toList == ([73, 99, 109, 112, 77, 115, 103] : List UInt8)) = false := by rw [c]; rfl
  have e3 : (a0.toList == ([84, 99, 112] : List UInt8)) = false := by rw [c]; rfl
  have e4 : (a0.toList == ([85, 100, 112] : List UInt8)) = false := by rw [c]; rfl
  have e5 : (a0.toList == ([85, 100, 112, 76, 105, 116, 101] : List UInt8)) = false := by rw [c]; rfl
  have e6 : (a0.toList == ([73, 112, 54] : List UInt8)) = false := by rw [c]; rfl
  have e7 : (a0.toList == ([73, 99, 109, 112, 54] : List UInt8)) = false := by rw [c]; rfl
  have e8 : (a0.toList == ([85, 100, 112, 54] : List UInt8)) = false := by rw [c]; rfl
  have e9 : (a0.toList == ([85, 100, 112, 76, 105, 116, 101, 54] : List UInt8)) = false := by rw [c]; rfl
  have e10 : (a0.toList == ([84, 99, 112, 69, 120, 116] : List UInt8)) = false := by rw [c]; rfl
  have e11 : (a0.toList == ([73, 112, 69, 120, 116] : List UInt8)) = true := by rw [c]; rfl
  clear c
  go_enter Tryz.func25, Tryz.ntmps25
  go_wp2_with ((with_reducible refine gate_dst (N := 39) rfl ?_); refine Kd.event_run (v := .slice (some ⟨w.heap.size, 0, none⟩) 18 18) (w1 := w.alloc (.cells (ipNames.map Value.string).toArray 9)) rfl (by kernel_rfl) ?_)
  go_ret
  exact ⟨_, rfl, R_strs ipNames w (by decide), below_alloc (Below.refl _ _) _⟩
theorem spec_snmpNames.calls (a0 : ByteArray) (r : List ByteArray) (w : World) (h : spec_snmpNames.f a0 = some r) :
    Calls Tryz.prog 25 #[.string a0] w fun e w' => ∃ v0_ : Value, e = .returned (v0_) ∧ Kd.R Kd.string 9 w' w.heap.size (fun _ => True) v0_ r ∧ Below w.heap.size w w' := by
  unfold spec_snmpNames.f at h
  by_cases c : a0.toList = tcpL
  · rw [if_pos c] at h
    obtain rfl := Option.some.inj h
    exact names_tcpNames a0 w c
  · rw [if_neg c] at h
    by_cases c2 : a0.toList = ipL
    · rw [if_pos c2] at h
      obtain rfl := Option.some.inj h
      exact names_ipNames a0 w c2
    · rw [if_neg c2] at h
      cases h
end Go.Proofs.YtabfglmpnkgecaaGreatDoor.Q

-- Written by a program of this claim's session (after the kit's print, with a kind for float64). Lean checks it.
namespace Go.Proofs.YtabfglmpnkgecaaGreatDoor.Q
open Go.RowKit Go.Proofs.YtabfglmpnkgecaaGreatDoorW.PrintWords Go.Proofs.YtabfglmpnkgecaaGreatDoorW.PrintLast Go.Proofs.YtabfglmpnkgecaaGreatDoorW.PrintMore
attribute [local go_sem] max2_int min2_int max_two min_two max_three min_three max_four min_four   -- for this text's walks alone
set_option linter.unusedVariables false
set_option linter.unusedSimpArgs false

/-! ### spec_within: function 45 -/
def spec_within.l0 : Nat → ByteArray → List ByteArray → Int → Int → Option (Bool)
  | 0, _, _, _, _ => none
  | k + 1, x1, x7, x8, x9 => if x9 < x8 then (if 0 ≤ x9 then (if x9 < (x7.length : Int) then (if (rdOf ByteArray.empty x7 x9).toList = x1.toList then (some true) else (spec_within.l0 k x1 x7 x8 (wrap64 (x9 + 1)))) else (none)) else (none)) else (some false)
def spec_within.f (k : Nat) (l0 : List ByteArray) (a1 : ByteArray) : Option (Bool) := spec_within.l0 k a1 l0 (l0.length : Int) 0
theorem spec_within.mono_l : ∀ k, (∀ y0 y1 y2 y3, LeO (spec_within.l0 k y0 y1 y2 y3) (spec_within.l0 (k + 1) y0 y1 y2 y3))
  | 0 => fun _ _ _ _ r h => by simp [spec_within.l0] at h
  | k + 1 => by
    have ih0 := spec_within.mono_l k
    · intro y0 y1 y2 y3
      unfold spec_within.l0
      repeat' first
      | (with_reducible exact ih0 _ _ _ _)
      | (with_reducible exact LeO.refl _)
      | (with_reducible exact LeO.none _)
      | (with_reducible refine LeO.ite ?_ ?_)
      | (with_reducible refine LeO.bind ?_ (fun _ => ?_))
      | exact ih0 _ _ _ _
      | exact LeO.none _
      | refine LeO.ite ?_ ?_
      | refine LeO.bind ?_ (fun _ => ?_)
theorem spec_within.mono : ∀ a0 a1 k, LeO (spec_within.f k a0 a1) (spec_within.f (k + 1) a0 a1) := by
  intro a0 a1 k
  have ih0 := spec_within.mono_l k
  unfold spec_within.f
  repeat' first
      | (with_reducible exact ih0 _ _ _ _)
      | (with_reducible exact LeO.refl _)
      | (with_reducible exact LeO.none _)
      | (with_reducible refine LeO.ite ?_ ?_)
      | (with_reducible refine LeO.bind ?_ (fun _ => ?_))
      | exact ih0 _ _ _ _
      | exact LeO.none _
      | refine LeO.ite ?_ ?_
      | refine LeO.bind ?_ (fun _ => ?_)
set_option maxHeartbeats 8000000 in
set_option maxRecDepth 100000 in
theorem spec_within.calls (k : Nat) (A0 : Option Addr) (c0 : Nat) (l0 : List ByteArray) (a1 : ByteArray) (r : Bool) (w : World) (hr0 : Kd.C Kd.string w A0 l0.length l0) (hc0 : l0.length ≤ c0) (h : spec_within.f k l0 a1 = some r) :
    Calls Tryz.prog 45 #[.slice A0 l0.length c0, .string a1] w fun e w' => e = .returned (.bool r) ∧ Drawn0 w w' := by
  have HR0 := Aside0.mk hr0
  have HC0 := Aside0.mk hc0
  clear hr0 hc0
  have H : (spec_within.l0 k a1 l0 (l0.length : Int) 0) = some r := h
  clear h
  have H' := Aside0.mk H
  clear H
  go_enter Tryz.func45, Tryz.ntmps45
  go_wp2
  go_loopg [9] k (fun kq v9 w' => ∃ (x9_1 : Int), v9 = .int .i64 x9_1 ∧ Aside0 (spec_within.l0 kq a1 l0 (l0.length : Int) x9_1 = some r) ∧ Aside0 (kq ≤ k) ∧ Drawn0 w w')
  case atStart => exact ⟨(0), (by first | rfl | (simp; done) | (simp [*]; done)), H', ⟨Nat.le_refl _⟩, by repeat (first | exact Drawn0.refl _ | apply Drawn0.step)⟩
  case round =>
    clear H'
    try clear p2
    obtain ⟨x9_1, rfl, HA, HK1, ⟨m1, rfl⟩⟩ := hrel
    cases gk with
    | zero => exact absurd HA.out (by simp [spec_within.l0])
    | succ k1 =>
      have H := HA.out
      clear HA
      simp only [spec_within.l0] at H
      by_cases c3 : x9_1 < (l0.length : Int)
      · rw [if_pos c3] at H
        have c3b0 : decide (x9_1 < (l0.length : Int)) = true := decide_eq_true c3
        clear c3
        by_cases c4 : 0 ≤ x9_1
        · rw [if_pos c4] at H
          have c4b0 : decide (0 ≤ x9_1) = true := decide_eq_true c4
          clear c4
          by_cases c5 : x9_1 < (l0.length : Int)
          · rw [if_pos c5] at H
            have c5b0 : decide (x9_1 < (l0.length : Int)) = true := decide_eq_true c5
            clear c5
            by_cases c6 : (rdOf ByteArray.empty l0 x9_1).toList = a1.toList
            · rw [if_pos c6] at H
              have c6b0 : ((rdOf ByteArray.empty l0 x9_1).toList == a1.toList) = true := beq_iff_eq.mpr c6
              have c6b1 : ((rdOf ByteArray.empty l0 x9_1).toList != a1.toList) = false := bne_eq_false_iff_eq.mpr c6
              clear c6
              obtain rfl := Option.some.inj H
              have p143 : 0 ≤ (x9_1 : Int) := of_decide_eq_true (by first | (with_reducible assumption) | assumption)
              have q143 : x9_1 < (l0.length : Int) := of_decide_eq_true (by first | (with_reducible assumption) | assumption)
              obtain ⟨ad143, e143, hx143_0⟩ := Kd.at_string HR0.out x9_1 p143 q143
              cases e143
              replace p143 := eq_true p143
              replace q143 := eq_true q143
              go_wp2
              go_ret
              exact ⟨by first | rfl | (simp; done) | (simp [*]; done), by repeat (first | exact Drawn0.refl _ | apply Drawn0.step)⟩
            · rw [if_neg c6] at H
              have c6b0 : ((rdOf ByteArray.empty l0 x9_1).toList == a1.toList) = false := beq_eq_false_iff_ne.mpr c6
              have c6b1 : ((rdOf ByteArray.empty l0 x9_1).toList != a1.toList) = true := bne_iff_ne.mpr c6
              have H' := Aside0.mk H
              clear H
              have p143 : 0 ≤ (x9_1 : Int) := of_decide_eq_true (by first | (with_reducible assumption) | assumption)
              have q143 : x9_1 < (l0.length : Int) := of_decide_eq_true (by first | (with_reducible assumption) | assumption)
              obtain ⟨ad143, e143, hx143_0⟩ := Kd.at_string HR0.out x9_1 p143 q143
              cases e143
              replace p143 := eq_true p143
              replace q143 := eq_true q143
              go_wp2
              go_roundg k1
              case measure => have := HK1.out; omega
              case rel => exact ⟨(wrap64 (x9_1 + 1)), (by first | rfl | (simp; done) | (simp [*]; done)), H', ⟨by have := HK1.out; omega⟩, by repeat (first | exact Drawn0.refl _ | apply Drawn0.step)⟩
          · rw [if_neg c5] at H
            exact absurd H (by simp)
        · rw [if_neg c4] at H
          exact absurd H (by simp)
      · rw [if_neg c3] at H
        have c3b0 : decide (x9_1 < (l0.length : Int)) = false := decide_eq_false c3
        clear c3
        obtain rfl := Option.some.inj H
        go_wp2
        go_ret
        exact ⟨by first | rfl | (simp; done) | (simp [*]; done), by repeat (first | exact Drawn0.refl _ | apply Drawn0.step)⟩

end Go.Proofs.YtabfglmpnkgecaaGreatDoor.Q

-- Written by a program of this claim's session (after the kit's print, with a kind for float64). Lean checks it.
namespace Go.Proofs.YtabfglmpnkgecaaGreatDoor.Q
open Go.RowKit Go.Proofs.YtabfglmpnkgecaaGreatDoorW.PrintWords Go.Proofs.YtabfglmpnkgecaaGreatDoorW.PrintLast Go.Proofs.YtabfglmpnkgecaaGreatDoorW.PrintMore
attribute [local go_sem] max2_int min2_int max_two min_two max_three min_three max_four min_four   -- for this text's walks alone
set_option linter.unusedVariables false
set_option linter.unusedSimpArgs false

/-! ### spec_unread: function 26 -/
def spec_unread.f (k : Nat) (a0 : ByteArray) : Option (Bool) := (spec_within.f k (([(⟨#[84, 67, 80, 65, 98, 111, 114, 116, 79, 110, 77, 101, 109, 111, 114, 121]⟩ : ByteArray), (⟨#[84, 67, 80, 65, 98, 111, 114, 116, 79, 110, 84, 105, 109, 101, 111, 117, 116]⟩ : ByteArray), (⟨#[84, 67, 80, 65, 98, 111, 114, 116, 79, 110, 76, 105, 110, 103, 101, 114]⟩ : ByteArray), (⟨#[84, 67, 80, 65, 98, 111, 114, 116, 70, 97, 105, 108, 101, 100]⟩ : ByteArray), (⟨#[84, 67, 80, 77, 101, 109, 111, 114, 121, 80, 114, 101, 115, 115, 117, 114, 101, 115]⟩ : ByteArray), (⟨#[84, 67, 80, 77, 101, 109, 111, 114, 121, 80, 114, 101, 115, 115, 117, 114, 101, 115, 67, 104, 114, 111, 110, 111]⟩ : ByteArray), (⟨#[84, 67, 80, 83, 65, 67, 75, 68, 105, 115, 99, 97, 114, 100]⟩ : ByteArray), (⟨#[84, 67, 80, 68, 83, 65, 67, 75, 73, 103, 110, 111, 114, 101, 100, 79, 108, 100]⟩ : ByteArray), (⟨#[84, 67, 80, 68, 83, 65, 67, 75, 73, 103, 110, 111, 114, 101, 100, 78, 111, 85, 110, 100, 111]⟩ : ByteArray), (⟨#[84, 67, 80, 83, 112, 117, 114, 105, 111, 117, 115, 82, 84, 79, 115]⟩ : ByteArray), (⟨#[84, 67, 80, 77, 68, 53, 78, 111, 116, 70, 111, 117, 110, 100]⟩ : ByteArray), (⟨#[84, 67, 80, 77, 68, 53, 85, 110, 101, 120, 112, 101, 99, 116, 101, 100]⟩ : ByteArray), (⟨#[84, 67, 80, 77, 68, 53, 70, 97, 105, 108, 117, 114, 101]⟩ : ByteArray), (⟨#[84, 67, 80, 83, 97, 99, 107, 83, 104, 105, 102, 116, 101, 100]⟩ : ByteArray), (⟨#[84, 67, 80, 83, 97, 99, 107, 77, 101, 114, 103, 101, 100]⟩ : ByteArray), (⟨#[84, 67, 80, 83, 97, 99, 107, 83, 104, 105, 102, 116, 70, 97, 108, 108, 98, 97, 99, 107]⟩ : ByteArray), (⟨#[84, 67, 80, 66, 97, 99, 107, 108, 111, 103, 68, 114, 111, 112]⟩ : ByteArray), (⟨#[80, 70, 77, 101, 109, 97, 108, 108, 111, 99, 68, 114, 111, 112]⟩ : ByteArray), (⟨#[84, 67, 80, 77, 105, 110, 84, 84, 76, 68, 114, 111, 112]⟩ : ByteArray)] : List ByteArray)) a0).bind fun t147 => (some t147)
theorem spec_unread.mono : ∀ a0 k, LeO (spec_unread.f k a0) (spec_unread.f (k + 1) a0) := by
  intro a0 k
  unfold spec_unread.f
  repeat' first
      | (with_reducible exact spec_within.mono _ _ _)
      | (with_reducible exact LeO.refl _)
      | (with_reducible exact LeO.none _)
      | (with_reducible refine LeO.ite ?_ ?_)
      | (with_reducible refine LeO.bind ?_ (fun _ => ?_))
      | exact spec_within.mono _ _ _
      | exact LeO.none _
      | refine LeO.ite ?_ ?_
      | refine LeO.bind ?_ (fun _ => ?_)
set_option maxHeartbeats 8000000 in
set_option maxRecDepth 100000 in
theorem spec_unread.calls (k : Nat) (a0 : ByteArray) (r : Bool) (w : World) (h : spec_unread.f k a0 = some r) :
    Calls Tryz.prog 26 #[.string a0] w fun e w' => e = .returned (.bool r) ∧ Below w.heap.size w w' := by
  have HB := Aside0.mk (Below.refl w.heap.size w)
  have H : ((spec_within.f k (([(⟨#[84, 67, 80, 65, 98, 111, 114, 116, 79, 110, 77, 101, 109, 111, 114, 121]⟩ : ByteArray), (⟨#[84, 67, 80, 65, 98, 111, 114, 116, 79, 110, 84, 105, 109, 101, 111, 117, 116]⟩ : ByteArray), (⟨#[84, 67, 80, 65, 98, 111, 114, 116, 79, 110, 76, 105, 110, 103, 101, 114]⟩ : ByteArray), (⟨#[84, 67, 80, 65, 98, 111, 114, 116, 70, 97, 105, 108, 101, 100]⟩ : ByteArray), (⟨#[84, 67, 80, 77, 101, 109, 111, 114, 121, 80, 114, 101, 115, 115, 117, 114, 101, 115]⟩ : ByteArray), (⟨#[84, 67, 80, 77, 101, 109, 111, 114, 121, 80, 114, 101, 115, 115, 117, 114, 101, 115, 67, 104, 114, 111, 110, 111]⟩ : ByteArray), (⟨#[84, 67, 80, 83, 65, 67, 75, 68, 105, 115, 99, 97, 114, 100]⟩ : ByteArray), (⟨#[84, 67, 80, 68, 83, 65, 67, 75, 73, 103, 110, 111, 114, 101, 100, 79, 108, 100]⟩ : ByteArray), (⟨#[84, 67, 80, 68, 83, 65, 67, 75, 73, 103, 110, 111, 114, 101, 100, 78, 111, 85, 110, 100, 111]⟩ : ByteArray), (⟨#[84, 67, 80, 83, 112, 117, 114, 105, 111, 117, 115, 82, 84, 79, 115]⟩ : ByteArray), (⟨#[84, 67, 80, 77, 68, 53, 78, 111, 116, 70, 111, 117, 110, 100]⟩ : ByteArray), (⟨#[84, 67, 80, 77, 68, 53, 85, 110, 101, 120, 112, 101, 99, 116, 101, 100]⟩ : ByteArray), (⟨#[84, 67, 80, 77, 68, 53, 70, 97, 105, 108, 117, 114, 101]⟩ : ByteArray), (⟨#[84, 67, 80, 83, 97, 99, 107, 83, 104, 105, 102, 116, 101, 100]⟩ : ByteArray), (⟨#[84, 67, 80, 83, 97, 99, 107, 77, 101, 114, 103, 101, 100]⟩ : ByteArray), (⟨#[84, 67, 80, 83, 97, 99, 107, 83, 104, 105, 102, 116, 70, 97, 108, 108, 98, 97, 99, 107]⟩ : ByteArray), (⟨#[84, 67, 80, 66, 97, 99, 107, 108, 111, 103, 68, 114, 111, 112]⟩ : ByteArray), (⟨#[80, 70, 77, 101, 109, 97, 108, 108, 111, 99, 68, 114, 111, 112]⟩ : ByteArray), (⟨#[84, 67, 80, 77, 105, 110, 84, 84, 76, 68, 114, 111, 112]⟩ : ByteArray)] : List ByteArray)) a0).bind fun t147 => (some t147)) = some r := h
  clear h
  obtain ⟨y144, hy144⟩ : ∃ y_ : List ByteArray, y_ = (([(⟨#[84, 67, 80, 65, 98, 111, 114, 116, 79, 110, 77, 101, 109, 111, 114, 121]⟩ : ByteArray), (⟨#[84, 67, 80, 65, 98, 111, 114, 116, 79, 110, 84, 105, 109, 101, 111, 117, 116]⟩ : ByteArray), (⟨#[84, 67, 80, 65, 98, 111, 114, 116, 79, 110, 76, 105, 110, 103, 101, 114]⟩ : ByteArray), (⟨#[84, 67, 80, 65, 98, 111, 114, 116, 70, 97, 105, 108, 101, 100]⟩ : ByteArray), (⟨#[84, 67, 80, 77, 101, 109, 111, 114, 121, 80, 114, 101, 115, 115, 117, 114, 101, 115]⟩ : ByteArray), (⟨#[84, 67, 80, 77, 101, 109, 111, 114, 121, 80, 114, 101, 115, 115, 117, 114, 101, 115, 67, 104, 114, 111, 110, 111]⟩ : ByteArray), (⟨#[84, 67, 80, 83, 65, 67, 75, 68, 105, 115, 99, 97, 114, 100]⟩ : ByteArray), (⟨#[84, 67, 80, 68, 83, 65, 67, 75, 73, 103, 110, 111, 114, 101, 100, 79, 108, 100]⟩ : ByteArray), (⟨#[84, 67, 80, 68, 83, 65, 67, 75, 73, 103, 110, 111, 114, 101, 100, 78, 111, 85, 110, 100, 111]⟩ : ByteArray), (⟨#[84, 67, 80, 83, 112, 117, 114, 105, 111, 117, 115, 82, 84, 79, 115]⟩ : ByteArray), (⟨#[84, 67, 80, 77, 68, 53, 78, 111, 116, 70, 111, 117, 110, 100]⟩ : ByteArray), (⟨#[84, 67, 80, 77, 68, 53, 85, 110, 101, 120, 112, 101, 99, 116, 101, 100]⟩ : ByteArray), (⟨#[84, 67, 80, 77, 68, 53, 70, 97, 105, 108, 117, 114, 101]⟩ : ByteArray), (⟨#[84, 67, 80, 83, 97, 99, 107, 83, 104, 105, 102, 116, 101, 100]⟩ : ByteArray), (⟨#[84, 67, 80, 83, 97, 99, 107, 77, 101, 114, 103, 101, 100]⟩ : ByteArray), (⟨#[84, 67, 80, 83, 97, 99, 107, 83, 104, 105, 102, 116, 70, 97, 108, 108, 98, 97, 99, 107]⟩ : ByteArray), (⟨#[84, 67, 80, 66, 97, 99, 107, 108, 111, 103, 68, 114, 111, 112]⟩ : ByteArray), (⟨#[80, 70, 77, 101, 109, 97, 108, 108, 111, 99, 68, 114, 111, 112]⟩ : ByteArray), (⟨#[84, 67, 80, 77, 105, 110, 84, 84, 76, 68, 114, 111, 112]⟩ : ByteArray)] : List ByteArray)) := ⟨_, rfl⟩
  replace H : ((spec_within.f k y144 a0).bind fun t147 => (some t147)) = some r := by first | (rw [hy144]; with_reducible exact H) | (have H2_ := (Option.bind_some _ _).symm.trans H; rw [hy144]; with_reducible exact H2_) | (have H2_ := (Option.bind_some _ _).symm.trans H; with_reducible exact H2_) | with_reducible exact H | (rw [hy144]; exact H) | exact H
  have Ny144 := Aside0.mk hy144
  clear hy144
  replace H := Option.bind_eq_some_iff.mp H
  obtain ⟨t147, A20, H⟩ := H
  replace H : (some t147) = some r := H
  have A2 := Aside0.mk A20
  clear A20
  obtain rfl := Option.some.inj H
  go_enter Tryz.func26, Tryz.ntmps26
  go_wp2_with (first | ((with_reducible refine gate_dst (N := 3) rfl ?_); refine Kd.R_lit Kd.string _ 9 ?hg (N := 3) ?hd (xs := ([(⟨#[84, 67, 80, 65, 98, 111, 114, 116, 79, 110, 77, 101, 109, 111, 114, 121]⟩ : ByteArray), (⟨#[84, 67, 80, 65, 98, 111, 114, 116, 79, 110, 84, 105, 109, 101, 111, 117, 116]⟩ : ByteArray), (⟨#[84, 67, 80, 65, 98, 111, 114, 116, 79, 110, 76, 105, 110, 103, 101, 114]⟩ : ByteArray), (⟨#[84, 67, 80, 65, 98, 111, 114, 116, 70, 97, 105, 108, 101, 100]⟩ : ByteArray), (⟨#[84, 67, 80, 77, 101, 109, 111, 114, 121, 80, 114, 101, 115, 115, 117, 114, 101, 115]⟩ : ByteArray), (⟨#[84, 67, 80, 77, 101, 109, 111, 114, 121, 80, 114, 101, 115, 115, 117, 114, 101, 115, 67, 104, 114, 111, 110, 111]⟩ : ByteArray), (⟨#[84, 67, 80, 83, 65, 67, 75, 68, 105, 115, 99, 97, 114, 100]⟩ : ByteArray), (⟨#[84, 67, 80, 68, 83, 65, 67, 75, 73, 103, 110, 111, 114, 101, 100, 79, 108, 100]⟩ : ByteArray), (⟨#[84, 67, 80, 68, 83, 65, 67, 75, 73, 103, 110, 111, 114, 101, 100, 78, 111, 85, 110, 100, 111]⟩ : ByteArray), (⟨#[84, 67, 80, 83, 112, 117, 114, 105, 111, 117, 115, 82, 84, 79, 115]⟩ : ByteArray), (⟨#[84, 67, 80, 77, 68, 53, 78, 111, 116, 70, 111, 117, 110, 100]⟩ : ByteArray), (⟨#[84, 67, 80, 77, 68, 53, 85, 110, 101, 120, 112, 101, 99, 116, 101, 100]⟩ : ByteArray), (⟨#[84, 67, 80, 77, 68, 53, 70, 97, 105, 108, 117, 114, 101]⟩ : ByteArray), (⟨#[84, 67, 80, 83, 97, 99, 107, 83, 104, 105, 102, 116, 101, 100]⟩ : ByteArray), (⟨#[84, 67, 80, 83, 97, 99, 107, 77, 101, 114, 103, 101, 100]⟩ : ByteArray), (⟨#[84, 67, 80, 83, 97, 99, 107, 83, 104, 105, 102, 116, 70, 97, 108, 108, 98, 97, 99, 107]⟩ : ByteArray), (⟨#[84, 67, 80, 66, 97, 99, 107, 108, 111, 103, 68, 114, 111, 112]⟩ : ByteArray), (⟨#[80, 70, 77, 101, 109, 97, 108, 108, 111, 99, 68, 114, 111, 112]⟩ : ByteArray), (⟨#[84, 67, 80, 77, 105, 110, 84, 84, 76, 68, 114, 111, 112]⟩ : ByteArray)] : List ByteArray)) (inner := [.string (⟨#[84, 67, 80, 65, 98, 111, 114, 116, 79, 110, 77, 101, 109, 111, 114, 121]⟩ : ByteArray), .string (⟨#[84, 67, 80, 65, 98, 111, 114, 116, 79, 110, 84, 105, 109, 101, 111, 117, 116]⟩ : ByteArray), .string (⟨#[84, 67, 80, 65, 98, 111, 114, 116, 79, 110, 76, 105, 110, 103, 101, 114]⟩ : ByteArray), .string (⟨#[84, 67, 80, 65, 98, 111, 114, 116, 70, 97, 105, 108, 101, 100]⟩ : ByteArray), .string (⟨#[84, 67, 80, 77, 101, 109, 111, 114, 121, 80, 114, 101, 115, 115, 117, 114, 101, 115]⟩ : ByteArray), .string (⟨#[84, 67, 80, 77, 101, 109, 111, 114, 121, 80, 114, 101, 115, 115, 117, 114, 101, 115, 67, 104, 114, 111, 110, 111]⟩ : ByteArray), .string (⟨#[84, 67, 80, 83, 65, 67, 75, 68, 105, 115, 99, 97, 114, 100]⟩ : ByteArray), .string (⟨#[84, 67, 80, 68, 83, 65, 67, 75, 73, 103, 110, 111, 114, 101, 100, 79, 108, 100]⟩ : ByteArray), .string (⟨#[84, 67, 80, 68, 83, 65, 67, 75, 73, 103, 110, 111, 114, 101, 100, 78, 111, 85, 110, 100, 111]⟩ : ByteArray), .string (⟨#[84, 67, 80, 83, 112, 117, 114, 105, 111, 117, 115, 82, 84, 79, 115]⟩ : ByteArray), .string (⟨#[84, 67, 80, 77, 68, 53, 78, 111, 116, 70, 111, 117, 110, 100]⟩ : ByteArray), .string (⟨#[84, 67, 80, 77, 68, 53, 85, 110, 101, 120, 112, 101, 99, 116, 101, 100]⟩ : ByteArray), .string (⟨#[84, 67, 80, 77, 68, 53, 70, 97, 105, 108, 117, 114, 101]⟩ : ByteArray), .string (⟨#[84, 67, 80, 83, 97, 99, 107, 83, 104, 105, 102, 116, 101, 100]⟩ : ByteArray), .string (⟨#[84, 67, 80, 83, 97, 99, 107, 77, 101, 114, 103, 101, 100]⟩ : ByteArray), .string (⟨#[84, 67, 80, 83, 97, 99, 107, 83, 104, 105, 102, 116, 70, 97, 108, 108, 98, 97, 99, 107]⟩ : ByteArray), .string (⟨#[84, 67, 80, 66, 97, 99, 107, 108, 111, 103, 68, 114, 111, 112]⟩ : ByteArray), .string (⟨#[80, 70, 77, 101, 109, 97, 108, 108, 111, 99, 68, 114, 111, 112]⟩ : ByteArray), .string (⟨#[84, 67, 80, 77, 105, 110, 84, 84, 76, 68, 114, 111, 112]⟩ : ByteArray)]) (ok := fun _ => True) (okp := fun _ => True) ?hr ?hp (fun _ hk => hk) trivial (Below.refl _ _) (Nat.le_refl _) (by simp) ?_; (case hd => rfl); (case hg => rfl); (case hr => first | (go_simp; done) | (go_simp; rfl)); (case hp => exact (Reps.one (show Kd.M Kd.string _ _ _ (⟨#[84, 67, 80, 65, 98, 111, 114, 116, 79, 110, 77, 101, 109, 111, 114, 121]⟩ : ByteArray) [.string (⟨#[84, 67, 80, 65, 98, 111, 114, 116, 79, 110, 77, 101, 109, 111, 114, 121]⟩ : ByteArray)] from rfl) (Reps.one (show Kd.M Kd.string _ _ _ (⟨#[84, 67, 80, 65, 98, 111, 114, 116, 79, 110, 84, 105, 109, 101, 111, 117, 116]⟩ : ByteArray) [.string (⟨#[84, 67, 80, 65, 98, 111, 114, 116, 79, 110, 84, 105, 109, 101, 111, 117, 116]⟩ : ByteArray)] from rfl) (Reps.one (show Kd.M Kd.string _ _ _ (⟨#[84, 67, 80, 65, 98, 111, 114, 116, 79, 110, 76, 105, 110, 103, 101, 114]⟩ : ByteArray) [.string (⟨#[84, 67, 80, 65, 98, 111, 114, 116, 79, 110, 76, 105, 110, 103, 101, 114]⟩ : ByteArray)] from rfl) (Reps.one (show Kd.M Kd.string _ _ _ (⟨#[84, 67, 80, 65, 98, 111, 114, 116, 70, 97, 105, 108, 101, 100]⟩ : ByteArray) [.string (⟨#[84, 67, 80, 65, 98, 111, 114, 116, 70, 97, 105, 108, 101, 100]⟩ : ByteArray)] from rfl) (Reps.one (show Kd.M Kd.string _ _ _ (⟨#[84, 67, 80, 77, 101, 109, 111, 114, 121, 80, 114, 101, 115, 115, 117, 114, 101, 115]⟩ : ByteArray) [.string (⟨#[84, 67, 80, 77, 101, 109, 111, 114, 121, 80, 114, 101, 115, 115, 117, 114, 101, 115]⟩ : ByteArray)] from rfl) (Reps.one (show Kd.M Kd.string _ _ _ (⟨#[84, 67, 80, 77, 101, 109, 111, 114, 121, 80, 114, 101, 115, 115, 117, 114, 101, 115, 67, 104, 114, 111, 110, 111]⟩ : ByteArray) [.string (⟨#[84, 67, 80, 77, 101, 109, 111, 114, 121, 80, 114, 101, 115, 115, 117, 114, 101, 115, 67, 104, 114, 111, 110, 111]⟩ : ByteArray)] from rfl) (Reps.one (show Kd.M Kd.string _ _ _ (⟨#[84, 67, 80, 83, 65, 67, 75, 68, 105, 115, 99, 97, 114, 100]⟩ : ByteArray) [.string (⟨#[84, 67, 80, 83, 65, 67, 75, 68, 105, 115, 99, 97, 114, 100]⟩ : ByteArray)] from rfl) (Reps.one (show Kd.M Kd.string _ _ _ (⟨#[84, 67, 80, 68, 83, 65, 67, 75, 73, 103, 110, 111, 114, 101, 100, 79, 108, 100]⟩ : ByteArray) [.string (⟨#[84, 67, 80, 68, 83, 65, 67, 75, 73, 103, 110, 111, 114, 101, 100, 79, 108, 100]⟩ : ByteArray)] from rfl) (Reps.one (show Kd.M Kd.string _ _ _ (⟨#[84, 67, 80, 68, 83, 65, 67, 75, 73, 103, 110, 111, 114, 101, 100, 78, 111, 85, 110, 100, 111]⟩ : ByteArray) [.string (⟨#[84, 67, 80, 68, 83, 65, 67, 75, 73, 103, 110, 111, 114, 101, 100, 78, 111, 85, 110, 100, 111]⟩ : ByteArray)] from rfl) (Reps.one (show Kd.M Kd.string _ _ _ (⟨#[84, 67, 80, 83, 112, 117, 114, 105, 111, 117, 115, 82, 84, 79, 115]⟩ : ByteArray) [.string (⟨#[84, 67, 80, 83, 112, 117, 114, 105, 111, 117, 115, 82, 84, 79, 115]⟩ : ByteArray)] from rfl) (Reps.one (show Kd.M Kd.string _ _ _ (⟨#[84, 67, 80, 77, 68, 53, 78, 111, 116, 70, 111, 117, 110, 100]⟩ : ByteArray) [.string (⟨#[84, 67, 80, 77, 68, 53, 78, 111, 116, 70, 111, 117, 110, 100]⟩ : ByteArray)] from rfl) (Reps.one (show Kd.M Kd.string _ _ _ (⟨#[84, 67, 80, 77, 68, 53, 85, 110, 101, 120, 112, 101, 99, 116, 101, 100]⟩ : ByteArray) [.string (⟨#[84, 67, 80, 77, 68, 53, 85, 110, 101, 120, 112, 101, 99, 116, 101, 100]⟩ : ByteArray)] from rfl) (Reps.one (show Kd.M Kd.string _ _ _ (⟨#[84, 67, 80, 77, 68, 53, 70, 97, 105, 108, 117, 114, 101]⟩ : ByteArray) [.string (⟨#[84, 67, 80, 77, 68, 53, 70, 97, 105, 108, 117, 114, 101]⟩ : ByteArray)] from rfl) (Reps.one (show Kd.M Kd.string _ _ _ (⟨#[84, 67, 80, 83, 97, 99, 107, 83, 104, 105, 102, 116, 101, 100]⟩ : ByteArray) [.string (⟨#[84, 67, 80, 83, 97, 99, 107, 83, 104, 105, 102, 116, 101, 100]⟩ : ByteArray)] from rfl) (Reps.one (show Kd.M Kd.string _ _ _ (⟨#[84, 67, 80, 83, 97, 99, 107, 77, 101, 114, 103, 101, 100]⟩ : ByteArray) [.string (⟨#[84, 67, 80, 83, 97, 99, 107, 77, 101, 114, 103, 101, 100]⟩ : ByteArray)] from rfl) (Reps.one (show Kd.M Kd.string _ _ _ (⟨#[84, 67, 80, 83, 97, 99, 107, 83, 104, 105, 102, 116, 70, 97, 108, 108, 98, 97, 99, 107]⟩ : ByteArray) [.string (⟨#[84, 67, 80, 83, 97, 99, 107, 83, 104, 105, 102, 116, 70, 97, 108, 108, 98, 97, 99, 107]⟩ : ByteArray)] from rfl) (Reps.one (show Kd.M Kd.string _ _ _ (⟨#[84, 67, 80, 66, 97, 99, 107, 108, 111, 103, 68, 114, 111, 112]⟩ : ByteArray) [.string (⟨#[84, 67, 80, 66, 97, 99, 107, 108, 111, 103, 68, 114, 111, 112]⟩ : ByteArray)] from rfl) (Reps.one (show Kd.M Kd.string _ _ _ (⟨#[80, 70, 77, 101, 109, 97, 108, 108, 111, 99, 68, 114, 111, 112]⟩ : ByteArray) [.string (⟨#[80, 70, 77, 101, 109, 97, 108, 108, 111, 99, 68, 114, 111, 112]⟩ : ByteArray)] from rfl) (Reps.one (show Kd.M Kd.string _ _ _ (⟨#[84, 67, 80, 77, 105, 110, 84, 84, 76, 68, 114, 111, 112]⟩ : ByteArray) [.string (⟨#[84, 67, 80, 77, 105, 110, 84, 84, 76, 68, 114, 111, 112]⟩ : ByteArray)] from rfl) (Reps.none _ _))))))))))))))))))))); intro v145 w3 ho4 hb hg_ hnew_; clear hg_ hnew_; (first | rw [← Ny144.out] at ho4 | (simp only [Int.reduceToNat] at ho4; rw [← Ny144.out] at ho4)); have n0_ := Aside0.mk (Kd.R_lower ho4 (below_size (by repeat (first | (with_reducible first | exact HB.out | apply below_alloc | apply pw_below_drewN | apply below_drew1) | exact HB.out)))); have n1_ := Aside0.mk (below_step (by repeat (first | (with_reducible first | exact HB.out | apply below_alloc | apply pw_below_drewN | apply below_drew1) | exact HB.out)) hb); clear HB; have HO146 := n0_; have HB := n1_; clear n0_ n1_; clear hb ho4; obtain ⟨Ao5, co5, eo5⟩ := Kd.R_slice HO146.out; subst eo5) | ((with_reducible refine gate_callee (f := 45) rfl ?_); refine goesL_ (some 5) rfl rfl Tryz.func45 (by kernel_rfl) rfl #[.slice Ao5 y144.length co5, .string a0] rfl (by (try simp only [List.map_toArray, List.map_cons, List.map_nil]); first | done | rfl | (simp only [List.length_drop, List.length_take]; rfl)) ?_; (with_reducible refine (spec_within.calls k _ _ y144 a0 t147 _ ?side1 ?side2 A2.out).mono ?_); (case side1 => repeat (first | exact (Kd.R_reads' HO146.out).2.2 | (with_reducible refine Kd.C_alloc ?_ _) | (with_reducible refine Kd.C_drewN ?_ _) | (with_reducible refine Kd.C_drew ?_))); (case side2 => exact (Kd.R_reads' HO146.out).2.1); rintro e w' ⟨rfl, ⟨nd, rfl⟩⟩; refine ⟨_, rfl, ?_⟩))
  go_ret
  exact ⟨by first | rfl | (simp [errW_none, errW_some] <;> rfl) | (simp [*, errW_none, errW_some] <;> rfl), by repeat (first | (with_reducible first | exact HB.out | apply below_alloc | apply pw_below_drewN | apply below_drew1) | exact HB.out)⟩

end Go.Proofs.YtabfglmpnkgecaaGreatDoor.Q
