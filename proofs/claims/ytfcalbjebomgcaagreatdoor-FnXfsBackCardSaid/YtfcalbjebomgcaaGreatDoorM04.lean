/- The groups of /proc/fs/xfs/stat as a list, and the contracts of btree2 and xfsLines: they hand back this list in new memory. -/
import Derived.Test.YtfcalbjebomgcaaGreatDoorM02
import Derived.Test.YtfcalbjebomgcaaGreatDoorM03
set_option linter.unusedVariables false
set_option linter.unusedSimpArgs false
namespace Go.Proofs.YtfcalbjebomgcaaGreatDoor.X
open Go.RowKit Go.Proofs.YtfcalbjebomgcaaGreatDoorW.PrintWords Go.Proofs.YtfcalbjebomgcaaGreatDoorW.PrintLast Go.Proofs.YtfcalbjebomgcaaGreatDoorW.PrintMore Go.Proofs.YtfcalbjebomgcaaGreatDoor.Q
def b2Names : List ByteArray := [⟨#[76, 111, 111, 107, 117, 112]⟩, ⟨#[67, 111, 109, 112, 97, 114, 101]⟩, ⟨#[73, 110, 115, 114, 101, 99]⟩, ⟨#[68, 101, 108, 114, 101, 99]⟩, ⟨#[78, 101, 119, 82, 111, 111, 116]⟩, ⟨#[75, 105, 108, 108, 82, 111, 111, 116]⟩, ⟨#[73, 110, 99, 114, 101, 109, 101, 110, 116]⟩, ⟨#[68, 101, 99, 114, 101, 109, 101, 110, 116]⟩, ⟨#[76, 115, 104, 105, 102, 116]⟩, ⟨#[82, 115, 104, 105, 102, 116]⟩, ⟨#[83, 112, 108, 105, 116]⟩, ⟨#[74, 111, 105, 110]⟩, ⟨#[65, 108, 108, 111, 99]⟩, ⟨#[70, 114, 101, 101]⟩, ⟨#[77, 111, 118, 101, 115]⟩]
def btNames : List ByteArray := [⟨#[76, 111, 111, 107, 117, 112, 115]⟩, ⟨#[67, 111, 109, 112, 97, 114, 101, 115]⟩, ⟨#[82, 101, 99, 111, 114, 100, 115, 73, 110, 115, 101, 114, 116, 101, 100]⟩, ⟨#[82, 101, 99, 111, 114, 100, 115, 68, 101, 108, 101, 116, 101, 100]⟩]
def fs0 : List ByteArray := [⟨#[69, 120, 116, 101, 110, 116, 115, 65, 108, 108, 111, 99, 97, 116, 101, 100]⟩, ⟨#[66, 108, 111, 99, 107, 115, 65, 108, 108, 111, 99, 97, 116, 101, 100]⟩, ⟨#[69, 120, 116, 101, 110, 116, 115, 70, 114, 101, 101, 100]⟩, ⟨#[66, 108, 111, 99, 107, 115, 70, 114, 101, 101, 100]⟩]
def fs1 : List ByteArray := btNames
def fs2 : List ByteArray := [⟨#[82, 101, 97, 100, 115]⟩, ⟨#[87, 114, 105, 116, 101, 115]⟩, ⟨#[85, 110, 109, 97, 112, 115]⟩, ⟨#[69, 120, 116, 101, 110, 116, 76, 105, 115, 116, 73, 110, 115, 101, 114, 116, 105, 111, 110, 115]⟩, ⟨#[69, 120, 116, 101, 110, 116, 76, 105, 115, 116, 68, 101, 108, 101, 116, 105, 111, 110, 115]⟩, ⟨#[69, 120, 116, 101, 110, 116, 76, 105, 115, 116, 76, 111, 111, 107, 117, 112, 115]⟩, ⟨#[69, 120, 116, 101, 110, 116, 76, 105, 115, 116, 67, 111, 109, 112, 97, 114, 101, 115]⟩]
def fs3 : List ByteArray := btNames
def fs4 : List ByteArray := [⟨#[76, 111, 111, 107, 117, 112, 115]⟩, ⟨#[67, 114, 101, 97, 116, 101, 115]⟩, ⟨#[82, 101, 109, 111, 118, 101, 115]⟩, ⟨#[71, 101, 116, 100, 101, 110, 116, 115]⟩]
def fs5 : List ByteArray := [⟨#[83, 121, 110, 99]⟩, ⟨#[65, 115, 121, 110, 99]⟩, ⟨#[69, 109, 112, 116, 121]⟩]
def fs6 : List ByteArray := [⟨#[65, 116, 116, 101, 109, 112, 116, 115]⟩, ⟨#[70, 111, 117, 110, 100]⟩, ⟨#[82, 101, 99, 121, 99, 108, 101]⟩, ⟨#[77, 105, 115, 115, 101, 100]⟩, ⟨#[68, 117, 112, 108, 105, 99, 97, 116, 101]⟩, ⟨#[82, 101, 99, 108, 97, 105, 109, 115]⟩, ⟨#[65, 116, 116, 114, 105, 98, 117, 116, 101, 67, 104, 97, 110, 103, 101]⟩]
def fs7 : List ByteArray := [⟨#[87, 114, 105, 116, 101, 115]⟩, ⟨#[66, 108, 111, 99, 107, 115]⟩, ⟨#[78, 111, 73, 110, 116, 101, 114, 110, 97, 108, 66, 117, 102, 102, 101, 114, 115]⟩, ⟨#[70, 111, 114, 99, 101]⟩, ⟨#[70, 111, 114, 99, 101, 83, 108, 101, 101, 112]⟩]
def fs8 : List ByteArray := [⟨#[87, 114, 105, 116, 101]⟩, ⟨#[82, 101, 97, 100]⟩]
def fs9 : List ByteArray := [⟨#[71, 101, 116]⟩, ⟨#[83, 101, 116]⟩, ⟨#[82, 101, 109, 111, 118, 101]⟩, ⟨#[76, 105, 115, 116]⟩]
def fs10 : List ByteArray := [⟨#[73, 102, 108, 117, 115, 104]⟩, ⟨#[70, 108, 117, 115, 104]⟩, ⟨#[70, 108, 117, 115, 104, 73, 110, 111, 100, 101]⟩]
def fs11 : List ByteArray := [⟨#[65, 99, 116, 105, 118, 101]⟩, ⟨#[65, 108, 108, 111, 99, 97, 116, 101]⟩, ⟨#[71, 101, 116]⟩, ⟨#[72, 111, 108, 100]⟩, ⟨#[82, 101, 108, 101, 97, 115, 101]⟩, ⟨#[82, 101, 99, 108, 97, 105, 109]⟩, ⟨#[82, 101, 109, 111, 118, 101]⟩, ⟨#[70, 114, 101, 101]⟩]
def fs12 : List ByteArray := [⟨#[71, 101, 116]⟩, ⟨#[67, 114, 101, 97, 116, 101]⟩, ⟨#[71, 101, 116, 76, 111, 99, 107, 101, 100]⟩, ⟨#[71, 101, 116, 76, 111, 99, 107, 101, 100, 87, 97, 105, 116, 101, 100]⟩, ⟨#[66, 117, 115, 121, 76, 111, 99, 107, 101, 100]⟩, ⟨#[77, 105, 115, 115, 76, 111, 99, 107, 101, 100]⟩, ⟨#[80, 97, 103, 101, 82, 101, 116, 114, 105, 101, 115]⟩, ⟨#[80, 97, 103, 101, 70, 111, 117, 110, 100]⟩, ⟨#[71, 101, 116, 82, 101, 97, 100]⟩]
def fs13 : List ByteArray := [⟨#[70, 108, 117, 115, 104, 66, 121, 116, 101, 115]⟩, ⟨#[87, 114, 105, 116, 101, 66, 121, 116, 101, 115]⟩, ⟨#[82, 101, 97, 100, 66, 121, 116, 101, 115]⟩]
def fs14 : List ByteArray := [⟨#[81, 117, 105, 99, 107]⟩, ⟨#[83, 112, 108, 105, 116]⟩]
def fs15 : List ByteArray := [⟨#[84, 114, 121, 76, 111, 103, 115, 112, 97, 99, 101]⟩, ⟨#[83, 108, 101, 101, 112, 76, 111, 103, 115, 112, 97, 99, 101]⟩, ⟨#[80, 117, 115, 104, 101, 115]⟩, ⟨#[83, 117, 99, 99, 101, 115, 115]⟩, ⟨#[80, 117, 115, 104, 66, 117, 102]⟩, ⟨#[80, 105, 110, 110, 101, 100]⟩, ⟨#[76, 111, 99, 107, 101, 100]⟩, ⟨#[70, 108, 117, 115, 104, 105, 110, 103]⟩, ⟨#[82, 101, 115, 116, 97, 114, 116, 115]⟩, ⟨#[70, 108, 117, 115, 104]⟩]
def fs16 : List ByteArray := [⟨#[69, 110, 97, 98, 108, 101, 100]⟩]
def fs17 : List ByteArray := [⟨#[82, 101, 99, 108, 97, 105, 109, 115]⟩, ⟨#[82, 101, 99, 108, 97, 105, 109, 77, 105, 115, 115, 101, 115]⟩, ⟨#[68, 113, 117, 111, 116, 101, 68, 117, 112, 115]⟩, ⟨#[67, 97, 99, 104, 101, 77, 105, 115, 115, 101, 115]⟩, ⟨#[67, 97, 99, 104, 101, 72, 105, 116, 115]⟩, ⟨#[87, 97, 110, 116, 115]⟩, ⟨#[83, 104, 97, 107, 101, 82, 101, 99, 108, 97, 105, 109, 115]⟩, ⟨#[73, 110, 97, 99, 116, 82, 101, 99, 108, 97, 105, 109, 115]⟩, ⟨#[85, 110, 117, 115, 101, 100]⟩]
def fs18 : List ByteArray := b2Names
def fs19 : List ByteArray := b2Names
def fs20 : List ByteArray := b2Names
def fs21 : List ByteArray := b2Names
def fs22 : List ByteArray := b2Names
def fs23 : List ByteArray := b2Names
def fs24 : List ByteArray := b2Names
def fs25 : List ByteArray := b2Names
def fs26 : List ByteArray := b2Names
def fs27 : List ByteArray := b2Names
def fs28 : List ByteArray := b2Names
def fs29 : List ByteArray := b2Names
def fs30 : List ByteArray := [⟨#[71, 99, 82, 101, 97, 100, 67, 97, 108, 108, 115]⟩, ⟨#[71, 99, 87, 114, 105, 116, 101, 67, 97, 108, 108, 115]⟩, ⟨#[71, 99, 90, 111, 110, 101, 82, 101, 115, 101, 116, 67, 97, 108, 108, 115]⟩]
def fs31 : List ByteArray := [⟨#[73, 110, 111, 100, 101, 115]⟩]
def fs32 : List ByteArray := [⟨#[67, 111, 117, 110, 116]⟩]
def fs33 : List ByteArray := [⟨#[66, 121, 116, 101, 115]⟩]
def xfsGroups : List S52 := [⟨⟨#[101, 120, 116, 101, 110, 116, 95, 97, 108, 108, 111, 99]⟩, ⟨#[69, 120, 116, 101, 110, 116, 65, 108, 108, 111, 99, 97, 116, 105, 111, 110]⟩, fs0⟩, ⟨⟨#[97, 98, 116]⟩, ⟨#[65, 108, 108, 111, 99, 97, 116, 105, 111, 110, 66, 84, 114, 101, 101]⟩, fs1⟩, ⟨⟨#[98, 108, 107, 95, 109, 97, 112]⟩, ⟨#[66, 108, 111, 99, 107, 77, 97, 112, 112, 105, 110, 103]⟩, fs2⟩, ⟨⟨#[98, 109, 98, 116]⟩, ⟨#[66, 108, 111, 99, 107, 77, 97, 112, 66, 84, 114, 101, 101]⟩, fs3⟩, ⟨⟨#[100, 105, 114]⟩, ⟨#[68, 105, 114, 101, 99, 116, 111, 114, 121, 79, 112, 101, 114, 97, 116, 105, 111, 110]⟩, fs4⟩, ⟨⟨#[116, 114, 97, 110, 115]⟩, ⟨#[84, 114, 97, 110, 115, 97, 99, 116, 105, 111, 110]⟩, fs5⟩, ⟨⟨#[105, 103]⟩, ⟨#[73, 110, 111, 100, 101, 79, 112, 101, 114, 97, 116, 105, 111, 110]⟩, fs6⟩, ⟨⟨#[108, 111, 103]⟩, ⟨#[76, 111, 103, 79, 112, 101, 114, 97, 116, 105, 111, 110]⟩, fs7⟩, ⟨⟨#[114, 119]⟩, ⟨#[82, 101, 97, 100, 87, 114, 105, 116, 101]⟩, fs8⟩, ⟨⟨#[97, 116, 116, 114]⟩, ⟨#[65, 116, 116, 114, 105, 98, 117, 116, 101, 79, 112, 101, 114, 97, 116, 105, 111, 110]⟩, fs9⟩, ⟨⟨#[105, 99, 108, 117, 115, 116, 101, 114]⟩, ⟨#[73, 110, 111, 100, 101, 67, 108, 117, 115, 116, 101, 114, 105, 110, 103]⟩, fs10⟩, ⟨⟨#[118, 110, 111, 100, 101, 115]⟩, ⟨#[86, 110, 111, 100, 101]⟩, fs11⟩, ⟨⟨#[98, 117, 102]⟩, ⟨#[66, 117, 102, 102, 101, 114]⟩, fs12⟩, ⟨⟨#[120, 112, 99]⟩, ⟨#[69, 120, 116, 101, 110, 100, 101, 100, 80, 114, 101, 99, 105, 115, 105, 111, 110]⟩, fs13⟩, ⟨⟨#[120, 115, 116, 114, 97, 116]⟩, ⟨#[88, 115, 116, 114, 97, 116]⟩, fs14⟩, ⟨⟨#[112, 117, 115, 104, 95, 97, 105, 108]⟩, ⟨#[80, 117, 115, 104, 65, 105, 108]⟩, fs15⟩, ⟨⟨#[100, 101, 98, 117, 103]⟩, ⟨#[68, 101, 98, 117, 103]⟩, fs16⟩, ⟨⟨#[113, 109]⟩, ⟨#[81, 117, 111, 116, 97, 77, 97, 110, 97, 103, 101, 114]⟩, fs17⟩, ⟨⟨#[97, 98, 116, 98, 50]⟩, ⟨#[66, 116, 114, 101, 101, 65, 108, 108, 111, 99, 66, 108, 111, 99, 107, 115, 50]⟩, fs18⟩, ⟨⟨#[97, 98, 116, 99, 50]⟩, ⟨#[66, 116, 114, 101, 101, 65, 108, 108, 111, 99, 67, 111, 110, 116, 105, 103, 50]⟩, fs19⟩, ⟨⟨#[98, 109, 98, 116, 50]⟩, ⟨#[66, 116, 114, 101, 101, 66, 108, 111, 99, 107, 77, 97, 112, 50]⟩, fs20⟩, ⟨⟨#[105, 98, 116, 50]⟩, ⟨#[66, 116, 114, 101, 101, 73, 110, 111, 100, 101, 50]⟩, fs21⟩, ⟨⟨#[102, 105, 98, 116, 50]⟩, ⟨#[66, 116, 114, 101, 101, 70, 114, 101, 101, 73, 110, 111, 100, 101, 50]⟩, fs22⟩, ⟨⟨#[114, 109, 97, 112, 98, 116]⟩, ⟨#[66, 116, 114, 101, 101, 82, 101, 118, 101, 114, 115, 101, 77, 97, 112]⟩, fs23⟩, ⟨⟨#[114, 101, 102, 99, 110, 116, 98, 116]⟩, ⟨#[66, 116, 114, 101, 101, 82, 101, 102, 67, 111, 117, 110, 116]⟩, fs24⟩, ⟨⟨#[114, 109, 97, 112, 98, 116, 95, 109, 101, 109]⟩, ⟨#[66, 116, 114, 101, 101, 82, 101, 118, 101, 114, 115, 101, 77, 97, 112, 77, 101, 109]⟩, fs25⟩, ⟨⟨#[114, 99, 98, 97, 103, 98, 116]⟩, ⟨#[66, 116, 114, 101, 101, 82, 99, 98, 97, 103]⟩, fs26⟩, ⟨⟨#[114, 116, 114, 109, 97, 112, 98, 116]⟩, ⟨#[66, 116, 114, 101, 101, 82, 116, 82, 101, 118, 101, 114, 115, 101, 77, 97, 112]⟩, fs27⟩, ⟨⟨#[114, 116, 114, 109, 97, 112, 98, 116, 95, 109, 101, 109]⟩, ⟨#[66, 116, 114, 101, 101, 82, 116, 82, 101, 118, 101, 114, 115, 101, 77, 97, 112, 77, 101, 109]⟩, fs28⟩, ⟨⟨#[114, 116, 114, 101, 102, 99, 110, 116, 98, 116]⟩, ⟨#[66, 116, 114, 101, 101, 82, 116, 82, 101, 102, 67, 111, 117, 110, 116]⟩, fs29⟩, ⟨⟨#[122, 111, 110, 101, 100]⟩, ⟨#[90, 111, 110, 101, 100]⟩, fs30⟩, ⟨⟨#[109, 101, 116, 97, 102, 105, 108, 101]⟩, ⟨#[77, 101, 116, 97, 70, 105, 108, 101]⟩, fs31⟩, ⟨⟨#[100, 101, 102, 101, 114, 95, 114, 101, 108, 111, 103]⟩, ⟨#[68, 101, 102, 101, 114, 82, 101, 108, 111, 103]⟩, fs32⟩, ⟨⟨#[103, 99]⟩, ⟨#[71, 99, 88, 112, 99]⟩, fs33⟩]

theorem run_lit_strs {P : Program} {o : Oper} {a : Act} {W : World} {t e : TypeId} {r : Result Next} (h : (execOp a.eval o).run P W = r) : (execOp a.eval o).run P W = r := h
set_option maxHeartbeats 800000 in
set_option maxRecDepth 100000 in
theorem btree2_calls (w : World) : Calls Tryz.prog 35 #[] w fun e w' => ∃ g, e = .returned (.slice (some ⟨g, 0, none⟩) 15 15) ∧ Kd.F Kd.string w' (fun k => w.heap.size ≤ k) (some ⟨g, 0, none⟩) 15 b2Names ∧ Below w.heap.size w w' := by
  go_enter Tryz.func35, Tryz.ntmps35
  go_wp2_with ((with_reducible refine gate_dst (N := 1) rfl ?_); refine strs_event (N := 1) (e := 9) rfl rfl b2Names 15 rfl (by decide) ?hr ?_; (case hr => first | (go_simp; done) | (go_simp; rfl)); intro g w1 hC hB; have HC := Aside0.mk hC; have HB := Aside0.mk hB; clear hC hB)
  go_ret
  exact ⟨_, rfl, HC.out, HB.out⟩

set_option maxHeartbeats 8000000 in
set_option maxRecDepth 100000 in
theorem xfsLines_calls (w : World) : Calls Tryz.prog 16 #[] w fun e w' => ∃ g, e = .returned (.slice (some ⟨g, 0, none⟩) 34 34) ∧ Kd.F k52 w' (fun k => w.heap.size ≤ k) (some ⟨g, 0, none⟩) 34 xfsGroups ∧ Below w.heap.size w w' := by
  have hu52 := Tryz.underlying52
  go_enter Tryz.func16, Tryz.ntmps16
  simp only [List.append_eq, List.cons_append, List.nil_append]
  go_wp2_with (first | ((with_reducible refine gate_dst (N := 2) rfl ?_); refine strs_event (N := 2) (e := 9) rfl rfl btNames 4 rfl (by decide) ?hr ?_; (case hr => first | (go_simp; done) | (go_simp; rfl)); intro gt wt hC hB; have HCt := Aside0.mk hC; have HBt := Aside0.mk hB; clear hC hB) | ((with_reducible refine gate_dst (N := 3) rfl ?_); refine strs_event (N := 3) (e := 9) rfl rfl fs0 4 rfl (by decide) ?hr ?_; (case hr => first | (go_simp; done) | (go_simp; rfl)); intro g0 w0 hC hB; have HC0 := Aside0.mk hC; have HB0 := Aside0.mk hB; clear hC hB) | ((with_reducible refine gate_dst (N := 7) rfl ?_); refine strs_event (N := 7) (e := 9) rfl rfl fs2 7 rfl (by decide) ?hr ?_; (case hr => first | (go_simp; done) | (go_simp; rfl)); intro g2 w2 hC hB; have HC2 := Aside0.mk hC; have HB2 := Aside0.mk hB; clear hC hB) | ((with_reducible refine gate_dst (N := 11) rfl ?_); refine strs_event (N := 11) (e := 9) rfl rfl fs4 4 rfl (by decide) ?hr ?_; (case hr => first | (go_simp; done) | (go_simp; rfl)); intro g4 w4 hC hB; have HC4 := Aside0.mk hC; have HB4 := Aside0.mk hB; clear hC hB) | ((with_reducible refine gate_dst (N := 13) rfl ?_); refine strs_event (N := 13) (e := 9) rfl rfl fs5 3 rfl (by decide) ?hr ?_; (case hr => first | (go_simp; done) | (go_simp; rfl)); intro g5 w5 hC hB; have HC5 := Aside0.mk hC; have HB5 := Aside0.mk hB; clear hC hB) | ((with_reducible refine gate_dst (N := 15) rfl ?_); refine strs_event (N := 15) (e := 9) rfl rfl fs6 7 rfl (by decide) ?hr ?_; (case hr => first | (go_simp; done) | (go_simp; rfl)); intro g6 w6 hC hB; have HC6 := Aside0.mk hC; have HB6 := Aside0.mk hB; clear hC hB) | ((with_reducible refine gate_dst (N := 17) rfl ?_); refine strs_event (N := 17) (e := 9) rfl rfl fs7 5 rfl (by decide) ?hr ?_; (case hr => first | (go_simp; done) | (go_simp; rfl)); intro g7 w7 hC hB; have HC7 := Aside0.mk hC; have HB7 := Aside0.mk hB; clear hC hB) | ((with_reducible refine gate_dst (N := 19) rfl ?_); refine strs_event (N := 19) (e := 9) rfl rfl fs8 2 rfl (by decide) ?hr ?_; (case hr => first | (go_simp; done) | (go_simp; rfl)); intro g8 w8 hC hB; have HC8 := Aside0.mk hC; have HB8 := Aside0.mk hB; clear hC hB) | ((with_reducible refine gate_dst (N := 21) rfl ?_); refine strs_event (N := 21) (e := 9) rfl rfl fs9 4 rfl (by decide) ?hr ?_; (case hr => first | (go_simp; done) | (go_simp; rfl)); intro g9 w9 hC hB; have HC9 := Aside0.mk hC; have HB9 := Aside0.mk hB; clear hC hB) | ((with_reducible refine gate_dst (N := 23) rfl ?_); refine strs_event (N := 23) (e := 9) rfl rfl fs10 3 rfl (by decide) ?hr ?_; (case hr => first | (go_simp; done) | (go_simp; rfl)); intro g10 w10 hC hB; have HC10 := Aside0.mk hC; have HB10 := Aside0.mk hB; clear hC hB) | ((with_reducible refine gate_dst (N := 25) rfl ?_); refine strs_event (N := 25) (e := 9) rfl rfl fs11 8 rfl (by decide) ?hr ?_; (case hr => first | (go_simp; done) | (go_simp; rfl)); intro g11 w11 hC hB; have HC11 := Aside0.mk hC; have HB11 := Aside0.mk hB; clear hC hB) | ((with_reducible refine gate_dst (N := 27) rfl ?_); refine strs_event (N := 27) (e := 9) rfl rfl fs12 9 rfl (by decide) ?hr ?_; (case hr => first | (go_simp; done) | (go_simp; rfl)); intro g12 w12 hC hB; have HC12 := Aside0.mk hC; have HB12 := Aside0.mk hB; clear hC hB) | ((with_reducible refine gate_dst (N := 29) rfl ?_); refine strs_event (N := 29) (e := 9) rfl rfl fs13 3 rfl (by decide) ?hr ?_; (case hr => first | (go_simp; done) | (go_simp; rfl)); intro g13 w13 hC hB; have HC13 := Aside0.mk hC; have HB13 := Aside0.mk hB; clear hC hB) | ((with_reducible refine gate_dst (N := 31) rfl ?_); refine strs_event (N := 31) (e := 9) rfl rfl fs14 2 rfl (by decide) ?hr ?_; (case hr => first | (go_simp; done) | (go_simp; rfl)); intro g14 w14 hC hB; have HC14 := Aside0.mk hC; have HB14 := Aside0.mk hB; clear hC hB) | ((with_reducible refine gate_dst (N := 33) rfl ?_); refine strs_event (N := 33) (e := 9) rfl rfl fs15 10 rfl (by decide) ?hr ?_; (case hr => first | (go_simp; done) | (go_simp; rfl)); intro g15 w15 hC hB; have HC15 := Aside0.mk hC; have HB15 := Aside0.mk hB; clear hC hB) | ((with_reducible refine gate_dst (N := 35) rfl ?_); refine strs_event (N := 35) (e := 9) rfl rfl fs16 1 rfl (by decide) ?hr ?_; (case hr => first | (go_simp; done) | (go_simp; rfl)); intro g16 w16 hC hB; have HC16 := Aside0.mk hC; have HB16 := Aside0.mk hB; clear hC hB) | ((with_reducible refine gate_dst (N := 37) rfl ?_); refine strs_event (N := 37) (e := 9) rfl rfl fs17 9 rfl (by decide) ?hr ?_; (case hr => first | (go_simp; done) | (go_simp; rfl)); intro g17 w17 hC hB; have HC17 := Aside0.mk hC; have HB17 := Aside0.mk hB; clear hC hB) | ((with_reducible refine gate_dst (N := 39) rfl ?_); refine goesL_ (some 39) rfl rfl Tryz.func35 (by kernel_rfl) rfl #[] rfl (by (try simp only [List.map_toArray, List.map_nil]); first | done | rfl) ?_; refine (btree2_calls _).mono ?_; rintro e w18 ⟨g18, rfl, hC, hB⟩; refine ⟨_, rfl, ?_⟩; have HC18 := Aside0.mk hC; have HB18 := Aside0.mk hB; clear hC hB) | ((with_reducible refine gate_dst (N := 41) rfl ?_); refine goesL_ (some 41) rfl rfl Tryz.func35 (by kernel_rfl) rfl #[] rfl (by (try simp only [List.map_toArray, List.map_nil]); first | done | rfl) ?_; refine (btree2_calls _).mono ?_; rintro e w19 ⟨g19, rfl, hC, hB⟩; refine ⟨_, rfl, ?_⟩; have HC19 := Aside0.mk hC; have HB19 := Aside0.mk hB; clear hC hB) | ((with_reducible refine gate_dst (N := 43) rfl ?_); refine goesL_ (some 43) rfl rfl Tryz.func35 (by kernel_rfl) rfl #[] rfl (by (try simp only [List.map_toArray, List.map_nil]); first | done | rfl) ?_; refine (btree2_calls _).mono ?_; rintro e w20 ⟨g20, rfl, hC, hB⟩; refine ⟨_, rfl, ?_⟩; have HC20 := Aside0.mk hC; have HB20 := Aside0.mk hB; clear hC hB) | ((with_reducible refine gate_dst (N := 45) rfl ?_); refine goesL_ (some 45) rfl rfl Tryz.func35 (by kernel_rfl) rfl #[] rfl (by (try simp only [List.map_toArray, List.map_nil]); first | done | rfl) ?_; refine (btree2_calls _).mono ?_; rintro e w21 ⟨g21, rfl, hC, hB⟩; refine ⟨_, rfl, ?_⟩; have HC21 := Aside0.mk hC; have HB21 := Aside0.mk hB; clear hC hB) | ((with_reducible refine gate_dst (N := 47) rfl ?_); refine goesL_ (some 47) rfl rfl Tryz.func35 (by kernel_rfl) rfl #[] rfl (by (try simp only [List.map_toArray, List.map_nil]); first | done | rfl) ?_; refine (btree2_calls _).mono ?_; rintro e w22 ⟨g22, rfl, hC, hB⟩; refine ⟨_, rfl, ?_⟩; have HC22 := Aside0.mk hC; have HB22 := Aside0.mk hB; clear hC hB) | ((with_reducible refine gate_dst (N := 49) rfl ?_); refine goesL_ (some 49) rfl rfl Tryz.func35 (by kernel_rfl) rfl #[] rfl (by (try simp only [List.map_toArray, List.map_nil]); first | done | rfl) ?_; refine (btree2_calls _).mono ?_; rintro e w23 ⟨g23, rfl, hC, hB⟩; refine ⟨_, rfl, ?_⟩; have HC23 := Aside0.mk hC; have HB23 := Aside0.mk hB; clear hC hB) | ((with_reducible refine gate_dst (N := 51) rfl ?_); refine goesL_ (some 51) rfl rfl Tryz.func35 (by kernel_rfl) rfl #[] rfl (by (try simp only [List.map_toArray, List.map_nil]); first | done | rfl) ?_; refine (btree2_calls _).mono ?_; rintro e w24 ⟨g24, rfl, hC, hB⟩; refine ⟨_, rfl, ?_⟩; have HC24 := Aside0.mk hC; have HB24 := Aside0.mk hB; clear hC hB) | ((with_reducible refine gate_dst (N := 53) rfl ?_); refine goesL_ (some 53) rfl rfl Tryz.func35 (by kernel_rfl) rfl #[] rfl (by (try simp only [List.map_toArray, List.map_nil]); first | done | rfl) ?_; refine (btree2_calls _).mono ?_; rintro e w25 ⟨g25, rfl, hC, hB⟩; refine ⟨_, rfl, ?_⟩; have HC25 := Aside0.mk hC; have HB25 := Aside0.mk hB; clear hC hB) | ((with_reducible refine gate_dst (N := 55) rfl ?_); refine goesL_ (some 55) rfl rfl Tryz.func35 (by kernel_rfl) rfl #[] rfl (by (try simp only [List.map_toArray, List.map_nil]); first | done | rfl) ?_; refine (btree2_calls _).mono ?_; rintro e w26 ⟨g26, rfl, hC, hB⟩; refine ⟨_, rfl, ?_⟩; have HC26 := Aside0.mk hC; have HB26 := Aside0.mk hB; clear hC hB) | ((with_reducible refine gate_dst (N := 57) rfl ?_); refine goesL_ (some 57) rfl rfl Tryz.func35 (by kernel_rfl) rfl #[] rfl (by (try simp only [List.map_toArray, List.map_nil]); first | done | rfl) ?_; refine (btree2_calls _).mono ?_; rintro e w27 ⟨g27, rfl, hC, hB⟩; refine ⟨_, rfl, ?_⟩; have HC27 := Aside0.mk hC; have HB27 := Aside0.mk hB; clear hC hB) | ((with_reducible refine gate_dst (N := 59) rfl ?_); refine goesL_ (some 59) rfl rfl Tryz.func35 (by kernel_rfl) rfl #[] rfl (by (try simp only [List.map_toArray, List.map_nil]); first | done | rfl) ?_; refine (btree2_calls _).mono ?_; rintro e w28 ⟨g28, rfl, hC, hB⟩; refine ⟨_, rfl, ?_⟩; have HC28 := Aside0.mk hC; have HB28 := Aside0.mk hB; clear hC hB) | ((with_reducible refine gate_dst (N := 61) rfl ?_); refine goesL_ (some 61) rfl rfl Tryz.func35 (by kernel_rfl) rfl #[] rfl (by (try simp only [List.map_toArray, List.map_nil]); first | done | rfl) ?_; refine (btree2_calls _).mono ?_; rintro e w29 ⟨g29, rfl, hC, hB⟩; refine ⟨_, rfl, ?_⟩; have HC29 := Aside0.mk hC; have HB29 := Aside0.mk hB; clear hC hB) | ((with_reducible refine gate_dst (N := 63) rfl ?_); refine strs_event (N := 63) (e := 9) rfl rfl fs30 3 rfl (by decide) ?hr ?_; (case hr => first | (go_simp; done) | (go_simp; rfl)); intro g30 w30 hC hB; have HC30 := Aside0.mk hC; have HB30 := Aside0.mk hB; clear hC hB) | ((with_reducible refine gate_dst (N := 65) rfl ?_); refine strs_event (N := 65) (e := 9) rfl rfl fs31 1 rfl (by decide) ?hr ?_; (case hr => first | (go_simp; done) | (go_simp; rfl)); intro g31 w31 hC hB; have HC31 := Aside0.mk hC; have HB31 := Aside0.mk hB; clear hC hB) | ((with_reducible refine gate_dst (N := 67) rfl ?_); refine strs_event (N := 67) (e := 9) rfl rfl fs32 1 rfl (by decide) ?hr ?_; (case hr => first | (go_simp; done) | (go_simp; rfl)); intro g32 w32 hC hB; have HC32 := Aside0.mk hC; have HB32 := Aside0.mk hB; clear hC hB) | ((with_reducible refine gate_dst (N := 69) rfl ?_); refine strs_event (N := 69) (e := 9) rfl rfl fs33 1 rfl (by decide) ?hr ?_; (case hr => first | (go_simp; done) | (go_simp; rfl)); intro g33 w33 hC hB; have HC33 := Aside0.mk hC; have HB33 := Aside0.mk hB; clear hC hB))
  go_ret
  generalize hW : World.alloc _ _ = W'
  have hblk : W'.heap[w33.heap.size]? = some (.cells (([(⟨⟨#[101, 120, 116, 101, 110, 116, 95, 97, 108, 108, 111, 99]⟩, ⟨#[69, 120, 116, 101, 110, 116, 65, 108, 108, 111, 99, 97, 116, 105, 111, 110]⟩, fs0⟩, [.string ⟨#[101, 120, 116, 101, 110, 116, 95, 97, 108, 108, 111, 99]⟩, .string ⟨#[69, 120, 116, 101, 110, 116, 65, 108, 108, 111, 99, 97, 116, 105, 111, 110]⟩, .slice (some ⟨g0, 0, none⟩) 4 4]), (⟨⟨#[97, 98, 116]⟩, ⟨#[65, 108, 108, 111, 99, 97, 116, 105, 111, 110, 66, 84, 114, 101, 101]⟩, fs1⟩, [.string ⟨#[97, 98, 116]⟩, .string ⟨#[65, 108, 108, 111, 99, 97, 116, 105, 111, 110, 66, 84, 114, 101, 101]⟩, .slice (some ⟨gt, 0, none⟩) 4 4]), (⟨⟨#[98, 108, 107, 95, 109, 97, 112]⟩, ⟨#[66, 108, 111, 99, 107, 77, 97, 112, 112, 105, 110, 103]⟩, fs2⟩, [.string ⟨#[98, 108, 107, 95, 109, 97, 112]⟩, .string ⟨#[66, 108, 111, 99, 107, 77, 97, 112, 112, 105, 110, 103]⟩, .slice (some ⟨g2, 0, none⟩) 7 7]), (⟨⟨#[98, 109, 98, 116]⟩, ⟨#[66, 108, 111, 99, 107, 77, 97, 112, 66, 84, 114, 101, 101]⟩, fs3⟩, [.string ⟨#[98, 109, 98, 116]⟩, .string ⟨#[66, 108, 111, 99, 107, 77, 97, 112, 66, 84, 114, 101, 101]⟩, .slice (some ⟨gt, 0, none⟩) 4 4]), (⟨⟨#[100, 105, 114]⟩, ⟨#[68, 105, 114, 101, 99, 116, 111, 114, 121, 79, 112, 101, 114, 97, 116, 105, 111, 110]⟩, fs4⟩, [.string ⟨#[100, 105, 114]⟩, .string ⟨#[68, 105, 114, 101, 99, 116, 111, 114, 121, 79, 112, 101, 114, 97, 116, 105, 111, 110]⟩, .slice (some ⟨g4, 0, none⟩) 4 4]), (⟨⟨#[116, 114, 97, 110, 115]⟩, ⟨#[84, 114, 97, 110, 115, 97, 99, 116, 105, 111, 110]⟩, fs5⟩, [.string ⟨#[116, 114, 97, 110, 115]⟩, .string ⟨#[84, 114, 97, 110, 115, 97, 99, 116, 105, 111, 110]⟩, .slice (some ⟨g5, 0, none⟩) 3 3]), (⟨⟨#[105, 103]⟩, ⟨#[73, 110, 111, 100, 101, 79, 112, 101, 114, 97, 116, 105, 111, 110]⟩, fs6⟩, [.string ⟨#[105, 103]⟩, .string ⟨#[73, 110, 111, 100, 101, 79, 112, 101, 114, 97, 116, 105, 111, 110]⟩, .slice (some ⟨g6, 0, none⟩) 7 7]), (⟨⟨#[108, 111, 103]⟩, ⟨#[76, 111, 103, 79, 112, 101, 114, 97, 116, 105, 111, 110]⟩, fs7⟩, [.string ⟨#[108, 111, 103]⟩, .string ⟨#[76, 111, 103, 79, 112, 101, 114, 97, 116, 105, 111, 110]⟩, .slice (some ⟨g7, 0, none⟩) 5 5]), (⟨⟨#[114, 119]⟩, ⟨#[82, 101, 97, 100, 87, 114, 105, 116, 101]⟩, fs8⟩, [.string ⟨#[114, 119]⟩, .string ⟨#[82, 101, 97, 100, 87, 114, 105, 116, 101]⟩, .slice (some ⟨g8, 0, none⟩) 2 2]), (⟨⟨#[97, 116, 116, 114]⟩, ⟨#[65, 116, 116, 114, 105, 98, 117, 116, 101, 79, 112, 101, 114, 97, 116, 105, 111, 110]⟩, fs9⟩, [.string ⟨#[97, 116, 116, 114]⟩, .string ⟨#[65, 116, 116, 114, 105, 98, 117, 116, 101, 79, 112, 101, 114, 97, 116, 105, 111, 110]⟩, .slice (some ⟨g9, 0, none⟩) 4 4]), (⟨⟨#[105, 99, 108, 117, 115, 116, 101, 114]⟩, ⟨#[73, 110, 111, 100, 101, 67, 108, 117, 115, 116, 101, 114, 105, 110, 103]⟩, fs10⟩, [.string ⟨#[105, 99, 108, 117, 115, 116, 101, 114]⟩, .string ⟨#[73, 110, 111, 100, 101, 67, 108, 117, 115, 116, 101, 114, 105, 110, 103]⟩, .slice (some ⟨g10, 0, none⟩) 3 3]), (⟨⟨#[118, 110, 111, 100, 101, 115]⟩, ⟨#[86, 110, 111, 100, 101]⟩, fs11⟩, [.string ⟨#[118, 110, 111, 100, 101, 115]⟩, .string ⟨#[86, 110, 111, 100, 101]⟩, .slice (some ⟨g11, 0, none⟩) 8 8]), (⟨⟨#[98, 117, 102]⟩, ⟨#[66, 117, 102, 102, 101, 114]⟩, fs12⟩, [.string ⟨#[98, 117, 102]⟩, .string ⟨#[66, 117, 102, 102, 101, 114]⟩, .slice (some ⟨g12, 0, none⟩) 9 9]), (⟨⟨#[120, 112, 99]⟩, ⟨#[69, 120, 116, 101, 110, 100, 101, 100, 80, 114, 101, 99, 105, 115, 105, 111, 110]⟩, fs13⟩, [.string ⟨#[120, 112, 99]⟩, .string ⟨#[69, 120, 116, 101, 110, 100, 101, 100, 80, 114, 101, 99, 105, 115, 105, 111, 110]⟩, .slice (some ⟨g13, 0, none⟩) 3 3]), (⟨⟨#[120, 115, 116, 114, 97, 116]⟩, ⟨#[88, 115, 116, 114, 97, 116]⟩, fs14⟩, [.string ⟨#[120, 115, 116, 114, 97, 116]⟩, .string ⟨#[88, 115, 116, 114, 97, 116]⟩, .slice (some ⟨g14, 0, none⟩) 2 2]), (⟨⟨#[112, 117, 115, 104, 95, 97, 105, 108]⟩, ⟨#[80, 117, 115, 104, 65, 105, 108]⟩, fs15⟩, [.string ⟨#[112, 117, 115, 104, 95, 97, 105, 108]⟩, .string ⟨#[80, 117, 115, 104, 65, 105, 108]⟩, .slice (some ⟨g15, 0, none⟩) 10 10]), (⟨⟨#[100, 101, 98, 117, 103]⟩, ⟨#[68, 101, 98, 117, 103]⟩, fs16⟩, [.string ⟨#[100, 101, 98, 117, 103]⟩, .string ⟨#[68, 101, 98, 117, 103]⟩, .slice (some ⟨g16, 0, none⟩) 1 1]), (⟨⟨#[113, 109]⟩, ⟨#[81, 117, 111, 116, 97, 77, 97, 110, 97, 103, 101, 114]⟩, fs17⟩, [.string ⟨#[113, 109]⟩, .string ⟨#[81, 117, 111, 116, 97, 77, 97, 110, 97, 103, 101, 114]⟩, .slice (some ⟨g17, 0, none⟩) 9 9]), (⟨⟨#[97, 98, 116, 98, 50]⟩, ⟨#[66, 116, 114, 101, 101, 65, 108, 108, 111, 99, 66, 108, 111, 99, 107, 115, 50]⟩, fs18⟩, [.string ⟨#[97, 98, 116, 98, 50]⟩, .string ⟨#[66, 116, 114, 101, 101, 65, 108, 108, 111, 99, 66, 108, 111, 99, 107, 115, 50]⟩, .slice (some ⟨g18, 0, none⟩) 15 15]), (⟨⟨#[97, 98, 116, 99, 50]⟩, ⟨#[66, 116, 114, 101, 101, 65, 108, 108, 111, 99, 67, 111, 110, 116, 105, 103, 50]⟩, fs19⟩, [.string ⟨#[97, 98, 116, 99, 50]⟩, .string ⟨#[66, 116, 114, 101, 101, 65, 108, 108, 111, 99, 67, 111, 110, 116, 105, 103, 50]⟩, .slice (some ⟨g19, 0, none⟩) 15 15]), (⟨⟨#[98, 109, 98, 116, 50]⟩, ⟨#[66, 116, 114, 101, 101, 66, 108, 111, 99, 107, 77, 97, 112, 50]⟩, fs20⟩, [.string ⟨#[98, 109, 98, 116, 50]⟩, .string ⟨#[66, 116, 114, 101, 101, 66, 108, 111, 99, 107, 77, 97, 112, 50]⟩, .slice (some ⟨g20, 0, none⟩) 15 15]), (⟨⟨#[105, 98, 116, 50]⟩, ⟨#[66, 116, 114, 101, 101, 73, 110, 111, 100, 101, 50]⟩, fs21⟩, [.string ⟨#[105, 98, 116, 50]⟩, .string ⟨#[66, 116, 114, 101, 101, 73, 110, 111, 100, 101, 50]⟩, .slice (some ⟨g21, 0, none⟩) 15 15]), (⟨⟨#[102, 105, 98, 116, 50]⟩, ⟨#[66, 116, 114, 101, 101, 70, 114, 101, 101, 73, 110, 111, 100, 101, 50]⟩, fs22⟩, [.string ⟨#[102, 105, 98, 116, 50]⟩, .string ⟨#[66, 116, 114, 101, 101, 70, 114, 101, 101, 73, 110, 111, 100, 101, 50]⟩, .slice (some ⟨g22, 0, none⟩) 15 15]), (⟨⟨#[114, 109, 97, 112, 98, 116]⟩, ⟨#[66, 116, 114, 101, 101, 82, 101, 118, 101, 114, 115, 101, 77, 97, 112]⟩, fs23⟩, [.string ⟨#[114, 109, 97, 112, 98, 116]⟩, .string ⟨#[66, 116, 114, 101, 101, 82, 101, 118, 101, 114, 115, 101, 77, 97, 112]⟩, .slice (some ⟨g23, 0, none⟩) 15 15]), (⟨⟨#[114, 101, 102, 99, 110, 116, 98, 116]⟩, ⟨#[66, 116, 114, 101, 101, 82, 101, 102, 67, 111, 117, 110, 116]⟩, fs24⟩, [.string ⟨#[114, 101, 102, 99, 110, 116, 98, 116]⟩, .string ⟨#[66, 116, 114, 101, 101, 82, 101, 102, 67, 111, 117, 110, 116]⟩, .slice (some ⟨g24, 0, none⟩) 15 15]), (⟨⟨#[114, 109, 97, 112, 98, 116, 95, 109, 101, 109]⟩, ⟨#[66, 116, 114, 101, 101, 82, 101, 118, 101, 114, 115, 101, 77, 97, 112, 77, 101, 109]⟩, fs25⟩, [.string ⟨#[114, 109, 97, 112, 98, 116, 95, 109, 101, 109]⟩, .string ⟨#[66, 116, 114, 101, 101, 82, 101, 118, 101, 114, 115, 101, 77, 97, 112, 77, 101, 109]⟩, .slice (some ⟨g25, 0, none⟩) 15 15]), (⟨⟨#[114, 99, 98, 97, 103, 98, 116]⟩, ⟨#[66, 116, 114, 101, 101, 82, 99, 98, 97, 103]⟩, fs26⟩, [.string ⟨#[114, 99, 98, 97, 103, 98, 116]⟩, .string ⟨#[66, 116, 114, 101, 101, 82, 99, 98, 97, 103]⟩, .slice (some ⟨g26, 0, none⟩) 15 15]), (⟨⟨#[114, 116, 114, 109, 97, 112, 98, 116]⟩, ⟨#[66, 116, 114, 101, 101, 82, 116, 82, 101, 118, 101, 114, 115, 101, 77, 97, 112]⟩, fs27⟩, [.string ⟨#[114, 116, 114, 109, 97, 112, 98, 116]⟩, .string ⟨#[66, 116, 114, 101, 101, 82, 116, 82, 101, 118, 101, 114, 115, 101, 77, 97, 112]⟩, .slice (some ⟨g27, 0, none⟩) 15 15]), (⟨⟨#[114, 116, 114, 109, 97, 112, 98, 116, 95, 109, 101, 109]⟩, ⟨#[66, 116, 114, 101, 101, 82, 116, 82, 101, 118, 101, 114, 115, 101, 77, 97, 112, 77, 101, 109]⟩, fs28⟩, [.string ⟨#[114, 116, 114, 109, 97, 112, 98, 116, 95, 109, 101, 109]⟩, .string ⟨#[66, 116, 114, 101, 101, 82, 116, 82, 101, 118, 101, 114, 115, 101, 77, 97, 112, 77, 101, 109]⟩, .slice (some ⟨g28, 0, none⟩) 15 15]), (⟨⟨#[114, 116, 114, 101, 102, 99, 110, 116, 98, 116]⟩, ⟨#[66, 116, 114, 101, 101, 82, 116, 82, 101, 102, 67, 111, 117, 110, 116]⟩, fs29⟩, [.string ⟨#[114, 116, 114, 101, 102, 99, 110, 116, 98, 116]⟩, .string ⟨#[66, 116, 114, 101, 101, 82, 116, 82, 101, 102, 67, 111, 117, 110, 116]⟩, .slice (some ⟨g29, 0, none⟩) 15 15]), (⟨⟨#[122, 111, 110, 101, 100]⟩, ⟨#[90, 111, 110, 101, 100]⟩, fs30⟩, [.string ⟨#[122, 111, 110, 101, 100]⟩, .string ⟨#[90, 111, 110, 101, 100]⟩, .slice (some ⟨g30, 0, none⟩) 3 3]), (⟨⟨#[109, 101, 116, 97, 102, 105, 108, 101]⟩, ⟨#[77, 101, 116, 97, 70, 105, 108, 101]⟩, fs31⟩, [.string ⟨#[109, 101, 116, 97, 102, 105, 108, 101]⟩, .string ⟨#[77, 101, 116, 97, 70, 105, 108, 101]⟩, .slice (some ⟨g31, 0, none⟩) 1 1]), (⟨⟨#[100, 101, 102, 101, 114, 95, 114, 101, 108, 111, 103]⟩, ⟨#[68, 101, 102, 101, 114, 82, 101, 108, 111, 103]⟩, fs32⟩, [.string ⟨#[100, 101, 102, 101, 114, 95, 114, 101, 108, 111, 103]⟩, .string ⟨#[68, 101, 102, 101, 114, 82, 101, 108, 111, 103]⟩, .slice (some ⟨g32, 0, none⟩) 1 1]), (⟨⟨#[103, 99]⟩, ⟨#[71, 99, 88, 112, 99]⟩, fs33⟩, [.string ⟨#[103, 99]⟩, .string ⟨#[71, 99, 88, 112, 99]⟩, .slice (some ⟨g33, 0, none⟩) 1 1])] : List (S52 × List Value)).flatMap (·.2)).toArray 52 (0, 0)) := by rw [← hW]; exact blk_new _ _
  have S33 : Below w33.heap.size w33 W' := by rw [← hW]; exact below_alloc (Below.refl _ _) _
  clear hW
  have S32 := below_step HB33.out S33
  have S31 := below_step HB32.out S32
  have S30 := below_step HB31.out S31
  have S29 := below_step HB30.out S30
  have S28 := below_step HB29.out S29
  have S27 := below_step HB28.out S28
  have S26 := below_step HB27.out S27
  have S25 := below_step HB26.out S26
  have S24 := below_step HB25.out S25
  have S23 := below_step HB24.out S24
  have S22 := below_step HB23.out S23
  have S21 := below_step HB22.out S22
  have S20 := below_step HB21.out S21
  have S19 := below_step HB20.out S20
  have S18 := below_step HB19.out S19
  have S17 := below_step HB18.out S18
  have S16 := below_step HB17.out S17
  have S15 := below_step HB16.out S16
  have S14 := below_step HB15.out S15
  have S13 := below_step HB14.out S14
  have S12 := below_step HB13.out S13
  have S11 := below_step HB12.out S12
  have S10 := below_step HB11.out S11
  have S9 := below_step HB10.out S10
  have S8 := below_step HB9.out S9
  have S7 := below_step HB8.out S8
  have S6 := below_step HB7.out S7
  have S5 := below_step HB6.out S6
  have S4 := below_step HB5.out S5
  have S2 := below_step HB4.out S4
  have S0 := below_step HB2.out S2
  have St := below_step HB0.out S0
  have S := below_step HBt.out St
  have Zt : w.heap.size ≤ w.heap.size := Nat.le_refl _
  have Z0 := Nat.le_trans Zt HBt.out.size
  have Z2 := Nat.le_trans Z0 HB0.out.size
  have Z4 := Nat.le_trans Z2 HB2.out.size
  have Z5 := Nat.le_trans Z4 HB4.out.size
  have Z6 := Nat.le_trans Z5 HB5.out.size
  have Z7 := Nat.le_trans Z6 HB6.out.size
  have Z8 := Nat.le_trans Z7 HB7.out.size
  have Z9 := Nat.le_trans Z8 HB8.out.size
  have Z10 := Nat.le_trans Z9 HB9.out.size
  have Z11 := Nat.le_trans Z10 HB10.out.size
  have Z12 := Nat.le_trans Z11 HB11.out.size
  have Z13 := Nat.le_trans Z12 HB12.out.size
  have Z14 := Nat.le_trans Z13 HB13.out.size
  have Z15 := Nat.le_trans Z14 HB14.out.size
  have Z16 := Nat.le_trans Z15 HB15.out.size
  have Z17 := Nat.le_trans Z16 HB16.out.size
  have Z18 := Nat.le_trans Z17 HB17.out.size
  have Z19 := Nat.le_trans Z18 HB18.out.size
  have Z20 := Nat.le_trans Z19 HB19.out.size
  have Z21 := Nat.le_trans Z20 HB20.out.size
  have Z22 := Nat.le_trans Z21 HB21.out.size
  have Z23 := Nat.le_trans Z22 HB22.out.size
  have Z24 := Nat.le_trans Z23 HB23.out.size
  have Z25 := Nat.le_trans Z24 HB24.out.size
  have Z26 := Nat.le_trans Z25 HB25.out.size
  have Z27 := Nat.le_trans Z26 HB26.out.size
  have Z28 := Nat.le_trans Z27 HB27.out.size
  have Z29 := Nat.le_trans Z28 HB28.out.size
  have Z30 := Nat.le_trans Z29 HB29.out.size
  have Z31 := Nat.le_trans Z30 HB30.out.size
  have Z32 := Nat.le_trans Z31 HB31.out.size
  have Z33 := Nat.le_trans Z32 HB32.out.size
  have Z := Nat.le_trans Z33 HB33.out.size
  refine ⟨_, rfl, C_rowsF k52 _ rfl hblk Z ?_ (show (34 : Nat) ≤ 9223372036854775807 by decide), S⟩
  exact List.forall_mem_cons.2 ⟨k52_mkF W' _ ⟨⟨#[101, 120, 116, 101, 110, 116, 95, 97, 108, 108, 111, 99]⟩, ⟨#[69, 120, 116, 101, 110, 116, 65, 108, 108, 111, 99, 97, 116, 105, 111, 110]⟩, fs0⟩ (A2 := some ⟨g0, 0, none⟩) (c2 := 4) (Nat.le_refl _) (Kd.F_mono (Kd.F_below HC0.out S0) (fun _ hk => Nat.le_trans Z0 hk)), List.forall_mem_cons.2 ⟨k52_mkF W' _ ⟨⟨#[97, 98, 116]⟩, ⟨#[65, 108, 108, 111, 99, 97, 116, 105, 111, 110, 66, 84, 114, 101, 101]⟩, fs1⟩ (A2 := some ⟨gt, 0, none⟩) (c2 := 4) (Nat.le_refl _) (Kd.F_mono (Kd.F_below HCt.out St) (fun _ hk => Nat.le_trans Zt hk)), List.forall_mem_cons.2 ⟨k52_mkF W' _ ⟨⟨#[98, 108, 107, 95, 109, 97, 112]⟩, ⟨#[66, 108, 111, 99, 107, 77, 97, 112, 112, 105, 110, 103]⟩, fs2⟩ (A2 := some ⟨g2, 0, none⟩) (c2 := 7) (Nat.le_refl _) (Kd.F_mono (Kd.F_below HC2.out S2) (fun _ hk => Nat.le_trans Z2 hk)), List.forall_mem_cons.2 ⟨k52_mkF W' _ ⟨⟨#[98, 109, 98, 116]⟩, ⟨#[66, 108, 111, 99, 107, 77, 97, 112, 66, 84, 114, 101, 101]⟩, fs3⟩ (A2 := some ⟨gt, 0, none⟩) (c2 := 4) (Nat.le_refl _) (Kd.F_mono (Kd.F_below HCt.out St) (fun _ hk => Nat.le_trans Zt hk)), List.forall_mem_cons.2 ⟨k52_mkF W' _ ⟨⟨#[100, 105, 114]⟩, ⟨#[68, 105, 114, 101, 99, 116, 111, 114, 121, 79, 112, 101, 114, 97, 116, 105, 111, 110]⟩, fs4⟩ (A2 := some ⟨g4, 0, none⟩) (c2 := 4) (Nat.le_refl _) (Kd.F_mono (Kd.F_below HC4.out S4) (fun _ hk => Nat.le_trans Z4 hk)), List.forall_mem_cons.2 ⟨k52_mkF W' _ ⟨⟨#[116, 114, 97, 110, 115]⟩, ⟨#[84, 114, 97, 110, 115, 97, 99, 116, 105, 111, 110]⟩, fs5⟩ (A2 := some ⟨g5, 0, none⟩) (c2 := 3) (Nat.le_refl _) (Kd.F_mono (Kd.F_below HC5.out S5) (fun _ hk => Nat.le_trans Z5 hk)), List.forall_mem_cons.2 ⟨k52_mkF W' _ ⟨⟨#[105, 103]⟩, ⟨#[73, 110, 111, 100, 101, 79, 112, 101, 114, 97, 116, 105, 111, 110]⟩, fs6⟩ (A2 := some ⟨g6, 0, none⟩) (c2 := 7) (Nat.le_refl _) (Kd.F_mono (Kd.F_below HC6.out S6) (fun _ hk => Nat.le_trans Z6 hk)), List.forall_mem_cons.2 ⟨k52_mkF W' _ ⟨⟨#[108, 111, 103]⟩, ⟨#[76, 111, 103, 79, 112, 101, 114, 97, 116, 105, 111, 110]⟩, fs7⟩ (A2 := some ⟨g7, 0, none⟩) (c2 := 5) (Nat.le_refl _) (Kd.F_mono (Kd.F_below HC7.out S7) (fun _ hk => Nat.le_trans Z7 hk)), List.forall_mem_cons.2 ⟨k52_mkF W' _ ⟨⟨#[114, 119]⟩, ⟨#[82, 101, 97, 100, 87, 114, 105, 116, 101]⟩, fs8⟩ (A2 := some ⟨g8, 0, none⟩) (c2 := 2) (Nat.le_refl _) (Kd.F_mono (Kd.F_below HC8.out S8) (fun _ hk => Nat.le_trans Z8 hk)), List.forall_mem_cons.2 ⟨k52_mkF W' _ ⟨⟨#[97, 116, 116, 114]⟩, ⟨#[65, 116, 116, 114, 105, 98, 117, 116, 101, 79, 112, 101, 114, 97, 116, 105, 111, 110]⟩, fs9⟩ (A2 := some ⟨g9, 0, none⟩) (c2 := 4) (Nat.le_refl _) (Kd.F_mono (Kd.F_below HC9.out S9) (fun _ hk => Nat.le_trans Z9 hk)), List.forall_mem_cons.2 ⟨k52_mkF W' _ ⟨⟨#[105, 99, 108, 117, 115, 116, 101, 114]⟩, ⟨#[73, 110, 111, 100, 101, 67, 108, 117, 115, 116, 101, 114, 105, 110, 103]⟩, fs10⟩ (A2 := some ⟨g10, 0, none⟩) (c2 := 3) (Nat.le_refl _) (Kd.F_mono (Kd.F_below HC10.out S10) (fun _ hk => Nat.le_trans Z10 hk)), List.forall_mem_cons.2 ⟨k52_mkF W' _ ⟨⟨#[118, 110, 111, 100, 101, 115]⟩, ⟨#[86, 110, 111, 100, 101]⟩, fs11⟩ (A2 := some ⟨g11, 0, none⟩) (c2 := 8) (Nat.le_refl _) (Kd.F_mono (Kd.F_below HC11.out S11) (fun _ hk => Nat.le_trans Z11 hk)), List.forall_mem_cons.2 ⟨k52_mkF W' _ ⟨⟨#[98, 117, 102]⟩, ⟨#[66, 117, 102, 102, 101, 114]⟩, fs12⟩ (A2 := some ⟨g12, 0, none⟩) (c2 := 9) (Nat.le_refl _) (Kd.F_mono (Kd.F_below HC12.out S12) (fun _ hk => Nat.le_trans Z12 hk)), List.forall_mem_cons.2 ⟨k52_mkF W' _ ⟨⟨#[120, 112, 99]⟩, ⟨#[69, 120, 116, 101, 110, 100, 101, 100, 80, 114, 101, 99, 105, 115, 105, 111, 110]⟩, fs13⟩ (A2 := some ⟨g13, 0, none⟩) (c2 := 3) (Nat.le_refl _) (Kd.F_mono (Kd.F_below HC13.out S13) (fun _ hk => Nat.le_trans Z13 hk)), List.forall_mem_cons.2 ⟨k52_mkF W' _ ⟨⟨#[120, 115, 116, 114, 97, 116]⟩, ⟨#[88, 115, 116, 114, 97, 116]⟩, fs14⟩ (A2 := some ⟨g14, 0, none⟩) (c2 := 2) (Nat.le_refl _) (Kd.F_mono (Kd.F_below HC14.out S14) (fun _ hk => Nat.le_trans Z14 hk)), List.forall_mem_cons.2 ⟨k52_mkF W' _ ⟨⟨#[112, 117, 115, 104, 95, 97, 105, 108]⟩, ⟨#[80, 117, 115, 104, 65, 105, 108]⟩, fs15⟩ (A2 := some ⟨g15, 0, none⟩) (c2 := 10) (Nat.le_refl _) (Kd.F_mono (Kd.F_below HC15.out S15) (fun _ hk => Nat.le_trans Z15 hk)), List.forall_mem_cons.2 ⟨k52_mkF W' _ ⟨⟨#[100, 101, 98, 117, 103]⟩, ⟨#[68, 101, 98, 117, 103]⟩, fs16⟩ (A2 := some ⟨g16, 0, none⟩) (c2 := 1) (Nat.le_refl _) (Kd.F_mono (Kd.F_below HC16.out S16) (fun _ hk => Nat.le_trans Z16 hk)), List.forall_mem_cons.2 ⟨k52_mkF W' _ ⟨⟨#[113, 109]⟩, ⟨#[81, 117, 111, 116, 97, 77, 97, 110, 97, 103, 101, 114]⟩, fs17⟩ (A2 := some ⟨g17, 0, none⟩) (c2 := 9) (Nat.le_refl _) (Kd.F_mono (Kd.F_below HC17.out S17) (fun _ hk => Nat.le_trans Z17 hk)), List.forall_mem_cons.2 ⟨k52_mkF W' _ ⟨⟨#[97, 98, 116, 98, 50]⟩, ⟨#[66, 116, 114, 101, 101, 65, 108, 108, 111, 99, 66, 108, 111, 99, 107, 115, 50]⟩, fs18⟩ (A2 := some ⟨g18, 0, none⟩) (c2 := 15) (Nat.le_refl _) (Kd.F_mono (Kd.F_below HC18.out S18) (fun _ hk => Nat.le_trans Z18 hk)), List.forall_mem_cons.2 ⟨k52_mkF W' _ ⟨⟨#[97, 98, 116, 99, 50]⟩, ⟨#[66, 116, 114, 101, 101, 65, 108, 108, 111, 99, 67, 111, 110, 116, 105, 103, 50]⟩, fs19⟩ (A2 := some ⟨g19, 0, none⟩) (c2 := 15) (Nat.le_refl _) (Kd.F_mono (Kd.F_below HC19.out S19) (fun _ hk => Nat.le_trans Z19 hk)), List.forall_mem_cons.2 ⟨k52_mkF W' _ ⟨⟨#[98, 109, 98, 116, 50]⟩, ⟨#[66, 116, 114, 101, 101, 66, 108, 111, 99, 107, 77, 97, 112, 50]⟩, fs20⟩ (A2 := some ⟨g20, 0, none⟩) (c2 := 15) (Nat.le_refl _) (Kd.F_mono (Kd.F_below HC20.out S20) (fun _ hk => Nat.le_trans Z20 hk)), List.forall_mem_cons.2 ⟨k52_mkF W' _ ⟨⟨#[105, 98, 116, 50]⟩, ⟨#[66, 116, 114, 101, 101, 73, 110, 111, 100, 101, 50]⟩, fs21⟩ (A2 := some ⟨g21, 0, none⟩) (c2 := 15) (Nat.le_refl _) (Kd.F_mono (Kd.F_below HC21.out S21) (fun _ hk => Nat.le_trans Z21 hk)), List.forall_mem_cons.2 ⟨k52_mkF W' _ ⟨⟨#[102, 105, 98, 116, 50]⟩, ⟨#[66, 116, 114, 101, 101, 70, 114, 101, 101, 73, 110, 111, 100, 101, 50]⟩, fs22⟩ (A2 := some ⟨g22, 0, none⟩) (c2 := 15) (Nat.le_refl _) (Kd.F_mono (Kd.F_below HC22.out S22) (fun _ hk => Nat.le_trans Z22 hk)), List.forall_mem_cons.2 ⟨k52_mkF W' _ ⟨⟨#[114, 109, 97, 112, 98, 116]⟩, ⟨#[66, 116, 114, 101, 101, 82, 101, 118, 101, 114, 115, 101, 77, 97, 112]⟩, fs23⟩ (A2 := some ⟨g23, 0, none⟩) (c2 := 15) (Nat.le_refl _) (Kd.F_mono (Kd.F_below HC23.out S23) (fun _ hk => Nat.le_trans Z23 hk)), List.forall_mem_cons.2 ⟨k52_mkF W' _ ⟨⟨#[114, 101, 102, 99, 110, 116, 98, 116]⟩, ⟨#[66, 116, 114, 101, 101, 82, 101, 102, 67, 111, 117, 110, 116]⟩, fs24⟩ (A2 := some ⟨g24, 0, none⟩) (c2 := 15) (Nat.le_refl _) (Kd.F_mono (Kd.F_below HC24.out S24) (fun _ hk => Nat.le_trans Z24 hk)), List.forall_mem_cons.2 ⟨k52_mkF W' _ ⟨⟨#[114, 109, 97, 112, 98, 116, 95, 109, 101, 109]⟩, ⟨#[66, 116, 114, 101, 101, 82, 101, 118, 101, 114, 115, 101, 77, 97, 112, 77, 101, 109]⟩, fs25⟩ (A2 := some ⟨g25, 0, none⟩) (c2 := 15) (Nat.le_refl _) (Kd.F_mono (Kd.F_below HC25.out S25) (fun _ hk => Nat.le_trans Z25 hk)), List.forall_mem_cons.2 ⟨k52_mkF W' _ ⟨⟨#[114, 99, 98, 97, 103, 98, 116]⟩, ⟨#[66, 116, 114, 101, 101, 82, 99, 98, 97, 103]⟩, fs26⟩ (A2 := some ⟨g26, 0, none⟩) (c2 := 15) (Nat.le_refl _) (Kd.F_mono (Kd.F_below HC26.out S26) (fun _ hk => Nat.le_trans Z26 hk)), List.forall_mem_cons.2 ⟨k52_mkF W' _ ⟨⟨#[114, 116, 114, 109, 97, 112, 98, 116]⟩, ⟨#[66, 116, 114, 101, 101, 82, 116, 82, 101, 118, 101, 114, 115, 101, 77, 97, 112]⟩, fs27⟩ (A2 := some ⟨g27, 0, none⟩) (c2 := 15) (Nat.le_refl _) (Kd.F_mono (Kd.F_below HC27.out S27) (fun _ hk => Nat.le_trans Z27 hk)), List.forall_mem_cons.2 ⟨k52_mkF W' _ ⟨⟨#[114, 116, 114, 109, 97, 112, 98, 116, 95, 109, 101, 109]⟩, ⟨#[66, 116, 114, 101, 101, 82, 116, 82, 101, 118, 101, 114, 115, 101, 77, 97, 112, 77, 101, 109]⟩, fs28⟩ (A2 := some ⟨g28, 0, none⟩) (c2 := 15) (Nat.le_refl _) (Kd.F_mono (Kd.F_below HC28.out S28) (fun _ hk => Nat.le_trans Z28 hk)), List.forall_mem_cons.2 ⟨k52_mkF W' _ ⟨⟨#[114, 116, 114, 101, 102, 99, 110, 116, 98, 116]⟩, ⟨#[66, 116, 114, 101, 101, 82, 116, 82, 101, 102, 67, 111, 117, 110, 116]⟩, fs29⟩ (A2 := some ⟨g29, 0, none⟩) (c2 := 15) (Nat.le_refl _) (Kd.F_mono (Kd.F_below HC29.out S29) (fun _ hk => Nat.le_trans Z29 hk)), List.forall_mem_cons.2 ⟨k52_mkF W' _ ⟨⟨#[122, 111, 110, 101, 100]⟩, ⟨#[90, 111, 110, 101, 100]⟩, fs30⟩ (A2 := some ⟨g30, 0, none⟩) (c2 := 3) (Nat.le_refl _) (Kd.F_mono (Kd.F_below HC30.out S30) (fun _ hk => Nat.le_trans Z30 hk)), List.forall_mem_cons.2 ⟨k52_mkF W' _ ⟨⟨#[109, 101, 116, 97, 102, 105, 108, 101]⟩, ⟨#[77, 101, 116, 97, 70, 105, 108, 101]⟩, fs31⟩ (A2 := some ⟨g31, 0, none⟩) (c2 := 1) (Nat.le_refl _) (Kd.F_mono (Kd.F_below HC31.out S31) (fun _ hk => Nat.le_trans Z31 hk)), List.forall_mem_cons.2 ⟨k52_mkF W' _ ⟨⟨#[100, 101, 102, 101, 114, 95, 114, 101, 108, 111, 103]⟩, ⟨#[68, 101, 102, 101, 114, 82, 101, 108, 111, 103]⟩, fs32⟩ (A2 := some ⟨g32, 0, none⟩) (c2 := 1) (Nat.le_refl _) (Kd.F_mono (Kd.F_below HC32.out S32) (fun _ hk => Nat.le_trans Z32 hk)), List.forall_mem_cons.2 ⟨k52_mkF W' _ ⟨⟨#[103, 99]⟩, ⟨#[71, 99, 88, 112, 99]⟩, fs33⟩ (A2 := some ⟨g33, 0, none⟩) (c2 := 1) (Nat.le_refl _) (Kd.F_mono (Kd.F_below HC33.out S33) (fun _ hk => Nat.le_trans Z33 hk)), fun _ h => absurd h (List.not_mem_nil)⟩⟩⟩⟩⟩⟩⟩⟩⟩⟩⟩⟩⟩⟩⟩⟩⟩⟩⟩⟩⟩⟩⟩⟩⟩⟩⟩⟩⟩⟩⟩⟩⟩⟩
end Go.Proofs.YtfcalbjebomgcaaGreatDoor.X

/- The callees of xfsFine, by plain results. -/
namespace Go.Proofs.YtfcalbjebomgcaaGreatDoor.X
open Go.RowKit Go.Proofs.YtfcalbjebomgcaaGreatDoorW.PrintWords Go.Proofs.YtfcalbjebomgcaaGreatDoorW.PrintLast Go.Proofs.YtfcalbjebomgcaaGreatDoorW.PrintMore Go.Proofs.YtfcalbjebomgcaaGreatDoor.Q

/-- A row that the form can say. -/
def fineRow (r : S31) : Bool := match groupOf xfsGroups r.f0 with
  | none => false
  | some g => !(r.f0.toList == [103, 99]) && (r.f1.length == g.f2.length && r.f2.length == 0) && (r.f0.toList == [120, 112, 99] || (r.f0.toList == [100, 101, 102, 101, 114, 95, 114, 101, 108, 111, 103] || r.f1.all (fun n => decide (n < 4294967296))))
/-- Rows whose names differ. -/
def Apart31 (l : List S31) : Prop := ∀ a, a < l.length → ∀ b, b < a → (l.getD a z31).f0.toList ≠ (l.getD b z31).f0.toList
/-- Rows that the form can say. -/
def FineRows (l : List S31) : Prop := (∀ j, j < l.length → fineRow (l.getD j z31) = true) ∧ Apart31 l

theorem lineX (name : ByteArray) (A : Option Addr) (w : World) (hr : k52.C w A 34 xfsGroups) :
    Calls Tryz.prog 29 #[.slice A 34 34, .string name] w fun e w' => ∃ s1 s2 A2 c2, e = .returned (.tuple #[.agg #[.string s1, .string s2, .slice A2 ((groupOf xfsGroups name).getD z52).f2.length c2], .bool (groupOf xfsGroups name).isSome]) ∧ Below w.heap.size w w' := by
  cases hg : groupOf xfsGroups name with
  | none => exact (lineOf_none xfsGroups name A 34 w hr (Nat.le_refl _) hg).mono fun e w' h => ⟨_, _, _, _, h.1, h.2⟩
  | some g =>
    refine (lineOf_some xfsGroups name A 34 w hr (Nat.le_refl _) g hg).mono ?_
    rintro e w' ⟨A2, c2, he, _, _, hB⟩
    exact ⟨_, _, _, _, he, hB⟩

/-- What sized answers. -/
def sizedB (r : S31) (n : Nat) : Bool := r.f1.length == n && r.f2.length == 0
theorem sizedX (r : S31) (A1 : Option Addr) (c1 : Nat) (A2 : Option Addr) (c2 n : Nat) (w : World) (h1 : (Kd.int .u64).C w A1 r.f1.length r.f1) (hc1 : r.f1.length ≤ c1) (h2 : Kd.string.C w A2 r.f2.length r.f2) (hc2 : r.f2.length ≤ c2) :
    Calls Tryz.prog 30 #[.agg #[.string r.f0, .slice A1 r.f1.length c1, .slice A2 r.f2.length c2], .int .i64 (n : Int), .int .i64 0] w fun e w' => e = .returned (.bool (sizedB r n)) ∧ Below w.heap.size w w' := by
  refine spec_sized.calls r.f0 A1 c1 r.f1 A2 c2 r.f2 n 0 _ w h1 hc1 h2 hc2 ?_
  unfold spec_sized.f sizedB
  by_cases h : r.f1.length = n
  · rw [if_pos (by rw [h])]
    rw [beq_iff_eq.2 h, Bool.true_and]
    congr 1
    by_cases h' : r.f2.length = 0
    · rw [beq_iff_eq.2 h', beq_iff_eq.2 (by rw [h']; rfl)]
    · rw [beq_eq_false_iff_ne.2 h', beq_eq_false_iff_ne.2 (by omega)]
  · rw [if_neg (by omega), beq_eq_false_iff_ne.2 h, Bool.false_and]

theorem wrap_small {i n : Nat} (h : i < n) (hn : n ≤ 9223372036854775807) : wrap64 ((i : Int) + 1) = ((i + 1 : Nat) : Int) := by
  unfold wrap64; omega

theorem small_l0 (a0 : Int) (l1 : List Int) (hn : l1.length ≤ 9223372036854775807) : ∀ m i, i + m = l1.length → spec_small.l0 (m + 1) a0 l1 (l1.length : Int) (i : Int) = some ((l1.drop i).all (fun n => decide (n < a0)))
  | 0, i, h => by
    unfold spec_small.l0
    rw [if_neg (by omega), List.drop_eq_nil_of_le (by omega)]; rfl
  | m + 1, i, h => by
    have ih := small_l0 a0 l1 hn m (i + 1) (by omega)
    have hi : i < l1.length := by omega
    unfold spec_small.l0
    rw [if_pos (by omega), if_pos (by omega), if_pos (by omega), wrap_small hi hn, ih, List.drop_eq_getElem_cons hi, List.all_cons]
    have e : rd l1 (i : Int) = l1[i] := by rw [rd, Int.toNat_natCast]; simp [List.getD_eq_getElem?_getD, hi]
    rw [e]
    by_cases c : l1[i] ≥ a0
    · rw [if_pos c, decide_eq_false (by omega), Bool.false_and]
    · rw [if_neg c, decide_eq_true (by omega), Bool.true_and]
theorem smallX (a0 : Int) (A1 : Option Addr) (c1 : Nat) (l1 : List Int) (w : World) (hr1 : (Kd.int .u64).C w A1 l1.length l1) (hc1 : l1.length ≤ c1) :
    Calls Tryz.prog 31 #[.int .u64 a0, .slice A1 l1.length c1] w fun e w' => e = .returned (.bool (l1.all (fun n => decide (n < a0)))) ∧ Drawn0 w w' :=
  spec_small.calls (l1.length + 1) a0 A1 c1 l1 _ w hr1 hc1 (small_l0 a0 l1 hr1.2.1 l1.length 0 (by omega))

theorem distinct_l0 (l : List S31) (hn : l.length ≤ 9223372036854775807) : ∀ m i, i + m = l.length → ∃ k r, spec_distinct.l0 k l (l.length : Int) (i : Int) = some r ∧ (r = true → ∀ a, i ≤ a → a < l.length → ∀ b, b < a → (l.getD a z31).f0.toList ≠ (l.getD b z31).f0.toList)
  | 0, i, h => ⟨1, true, by unfold spec_distinct.l0; rw [if_neg (by omega)], fun _ a ha hb => absurd hb (by omega)⟩
  | m + 1, i, h => by
    obtain ⟨k, r, he, hr⟩ := distinct_l0 l hn m (i + 1) (by omega)
    have hi : i < l.length := by omega
    have inner : ∀ q j, j + q = i → ∃ k r, spec_distinct.l1 k l (i : Int) (l.length : Int) (i : Int) (i : Int) (j : Int) = some r ∧ (r = true → (∀ b, j ≤ b → b < i → (l.getD i z31).f0.toList ≠ (l.getD b z31).f0.toList) ∧ ∀ a, i + 1 ≤ a → a < l.length → ∀ b, b < a → (l.getD a z31).f0.toList ≠ (l.getD b z31).f0.toList) := by
      intro q
      induction q with
      | zero => intro j hj; exact ⟨k + 1, r, by unfold spec_distinct.l1; rw [if_neg (by omega), wrap_small hi hn]; exact he, fun h => ⟨fun b h1 h2 => absurd h1 (by omega), hr h⟩⟩
      | succ q ih =>
        intro j hj
        obtain ⟨k1, r1, he1, hr1⟩ := ih (j + 1) (by omega)
        have e1 : rd_T31 l (i : Int) = l.getD i z31 := by rw [rd_T31, Int.toNat_natCast]
        have e2 : rd_T31 l (j : Int) = l.getD j z31 := by rw [rd_T31, Int.toNat_natCast]
        by_cases c : (l.getD i z31).f0.toList = (l.getD j z31).f0.toList
        · refine ⟨1, false, ?_, fun h => absurd h (by decide)⟩
          unfold spec_distinct.l1
          rw [if_pos (by omega), if_pos (by omega), if_pos (by omega), if_pos (by omega), if_pos (by omega), e1, e2, if_pos c]
        · refine ⟨k1 + 1, r1, ?_, fun h => ⟨fun b h1 h2 => ?_, (hr1 h).2⟩⟩
          · unfold spec_distinct.l1
            rw [if_pos (by omega), if_pos (by omega), if_pos (by omega), if_pos (by omega), if_pos (by omega), e1, e2, if_neg c, wrap_small (by omega : j < l.length) hn]
            exact he1
          · by_cases hb : b = j
            · subst hb; exact c
            · exact (hr1 h).1 b (by omega) h2
    obtain ⟨k2, r2, he2, hr2⟩ := inner i 0 (by omega)
    refine ⟨k2 + 1, r2, ?_, fun hh a ha hl b hb => ?_⟩
    · unfold spec_distinct.l0
      rw [if_pos (by omega)]
      exact he2
    · by_cases hab : a = i
      · rw [hab] at hb ⊢; exact (hr2 hh).1 b (Nat.zero_le _) hb
      · exact (hr2 hh).2 a (by omega) hl b hb
theorem distinctX (l : List S31) (A : Option Addr) (c : Nat) (w : World) (hr : Kd.C k31 w A l.length l) (hc : l.length ≤ c) :
    Calls Tryz.prog 32 #[.slice A l.length c] w fun e w' => ∃ b, e = .returned (.bool b) ∧ (b = true → Apart31 l) ∧ Below w.heap.size w w' := by
  obtain ⟨k, r, he, h⟩ := distinct_l0 l hr.2.1 l.length 0 (by omega)
  refine (spec_distinct.calls k A c l r w hr hc he).mono ?_
  rintro e w' ⟨rfl, ⟨n, rfl⟩⟩
  exact ⟨r, rfl, fun hb a ha b hb' => h hb a (Nat.zero_le _) ha b hb', pw_below_drewN (Below.refl _ _) n⟩

theorem keepR {g : Nat} {s : ByteArray} {v1 v2 : Value} {w W : World} (h : KeepS g (.cells #[.string s, v1, v2] 31 (0, 0)) w W) : W.cell? ⟨g, 0, none⟩ = some (.string s) ∧ Aside0 (KeepS g (.cells #[.string s, v1, v2] 31 (0, 0)) w W) :=
  ⟨(blk_cell h.1 0).trans rfl, ⟨h⟩⟩

theorem keepR_below {g : Nat} {s : ByteArray} {v1 v2 : Value} {w W W' : World} (h : W.cell? ⟨g, 0, none⟩ = some (.string s) ∧ Aside0 (KeepS g (.cells #[.string s, v1, v2] 31 (0, 0)) w W)) (hb : Below W.heap.size W W') : W'.cell? ⟨g, 0, none⟩ = some (.string s) ∧ Aside0 (KeepS g (.cells #[.string s, v1, v2] 31 (0, 0)) w W') := keepR (h.2.out.below hb)
theorem keepR_alloc {g : Nat} {s : ByteArray} {v1 v2 : Value} {w W : World} (h : W.cell? ⟨g, 0, none⟩ = some (.string s) ∧ Aside0 (KeepS g (.cells #[.string s, v1, v2] 31 (0, 0)) w W)) (o : Obj) : (W.alloc o).cell? ⟨g, 0, none⟩ = some (.string s) ∧ Aside0 (KeepS g (.cells #[.string s, v1, v2] 31 (0, 0)) w (W.alloc o)) := keepR (h.2.out.alloc o)

theorem keepR_swap {g : Nat} {s : ByteArray} {v1 v2 : Value} {w W : World} {cs : Array Value} {t : TypeId} {fr : Nat × Nat} (h : (W.alloc (.cells cs t fr)).cell? ⟨g, 0, none⟩ = some (.string s) ∧ Aside0 (KeepS g (.cells #[.string s, v1, v2] 31 (0, 0)) w (W.alloc (.cells cs t fr)))) (ht : t ≠ 31) (hw : w.heap.size ≤ g) (o : Obj) :
    (W.alloc o).cell? ⟨g, 0, none⟩ = some (.string s) ∧ Aside0 (KeepS g (.cells #[.string s, v1, v2] 31 (0, 0)) w (W.alloc o)) := by
  have hk := h.2.out
  have hb := hk.2
  have hlt := blk_lt hk.1
  have hsz : (W.alloc (.cells cs t fr)).heap.size = W.heap.size + 1 := World.size_alloc _ _
  have hsz2 : (W.alloc o).heap.size = W.heap.size + 1 := World.size_alloc _ _
  have hne : g ≠ W.heap.size := by
    rintro rfl
    have := (blk_new W (.cells cs t fr)).symm.trans hk.1
    injection this with this
    injection this with _ h31
    exact ht h31
  have hg : g < W.heap.size := by omega
  exact keepR ⟨(Below.heap_alloc W o g hg).trans ((Below.heap_alloc W _ g hg).symm.trans hk.1),
    ⟨hb.os, hb.tape, hb.output, by omega, fun i hi => (Below.heap_alloc W o i (by omega)).trans ((Below.heap_alloc W (.cells cs t fr) i (by omega)).symm.trans (hb.block i hi))⟩⟩

/-- The block b of the group's variable, behind block g. -/
def ZF (g b : Nat) (cs : Array Value) (w W : World) : Prop := W.heap[b]? = some (.cells cs 52 (0, 0)) ∧ g < b ∧ w.heap.size ≤ g
theorem ZF.below {g b : Nat} {cs : Array Value} {w W W' : World} (h : ZF g b cs w W) (hb : Below W.heap.size W W') : ZF g b cs w W' := ⟨blk_below h.1 hb, h.2⟩
theorem alloc_kept {g : Nat} {s : ByteArray} {v1 v2 : Value} {w W W' : World} {cs : Array Value} (h : (W.alloc (.cells cs 52 (0, 0))).cell? ⟨g, 0, none⟩ = some (.string s) ∧ Aside0 (KeepS g (.cells #[.string s, v1, v2] 31 (0, 0)) w (W.alloc (.cells cs 52 (0, 0))))) (hw : w.heap.size ≤ g)
    (hB : Below (W.alloc (.cells cs 52 (0, 0))).heap.size (W.alloc (.cells cs 52 (0, 0))) W') : ZF g W.heap.size cs w W' := by
  have hk := h.2.out
  have hlt := blk_lt hk.1
  have hsz : (W.alloc (.cells cs 52 (0, 0))).heap.size = W.heap.size + 1 := World.size_alloc _ _
  have hne : g ≠ W.heap.size := by
    rintro rfl
    have := (blk_new W (.cells cs 52 (0, 0))).symm.trans hk.1
    injection this with this
    injection this with _ h31
    exact absurd h31 (by decide)
  exact ⟨blk_below (blk_new W _) hB, by omega, hw⟩
theorem alloc_keptD {g : Nat} {s : ByteArray} {v1 v2 : Value} {w W W' : World} {cs : Array Value} (h : (W.alloc (.cells cs 52 (0, 0))).drew.cell? ⟨g, 0, none⟩ = some (.string s) ∧ Aside0 (KeepS g (.cells #[.string s, v1, v2] 31 (0, 0)) w (W.alloc (.cells cs 52 (0, 0))).drew)) (hw : w.heap.size ≤ g)
    (hB : Below (W.alloc (.cells cs 52 (0, 0))).drew.heap.size (W.alloc (.cells cs 52 (0, 0))).drew W') : ZF g W.heap.size cs w W' := by
  have hk := h.2.out
  have hlt : g < (W.alloc (.cells cs 52 (0, 0))).heap.size := blk_lt hk.1
  have hsz : (W.alloc (.cells cs 52 (0, 0))).heap.size = W.heap.size + 1 := World.size_alloc _ _
  have hne : g ≠ W.heap.size := by
    rintro rfl
    have := (blk_new W (.cells cs 52 (0, 0))).symm.trans hk.1
    injection this with this
    injection this with _ h31
    exact absurd h31 (by decide)
  exact ⟨blk_below (blk_drew (blk_new W _)) hB, by omega, hw⟩
theorem keepR_far3 {g b : Nat} {cs : Array Value} {s : ByteArray} {v1 v2 u0 u1 u2 : Value} {w W : World} (hz : ZF g b cs w W) (h : W.cell? ⟨g, 0, none⟩ = some (.string s) ∧ Aside0 (KeepS g (.cells #[.string s, v1, v2] 31 (0, 0)) w W)) :
    (((W.setCell ⟨b, 0, none⟩ u0).setCell ⟨b, 1, none⟩ u1).setCell ⟨b, 2, none⟩ u2).cell? ⟨g, 0, none⟩ = some (.string s) ∧ Aside0 (KeepS g (.cells #[.string s, v1, v2] 31 (0, 0)) w (((W.setCell ⟨b, 0, none⟩ u0).setCell ⟨b, 1, none⟩ u1).setCell ⟨b, 2, none⟩ u2)) := by
  have hne : g ≠ b := by have := hz.2.1; omega
  have hw : w.heap.size ≤ b := by have := hz.2; omega
  exact keepR (((h.2.out.far (p := ⟨b, 0, none⟩) hne hw u0).far (p := ⟨b, 1, none⟩) hne hw u1).far (p := ⟨b, 2, none⟩) hne hw u2)

end Go.Proofs.YtfcalbjebomgcaaGreatDoor.X

/- xfsFine by contract: which rows the form can say. -/
namespace Go.Proofs.YtfcalbjebomgcaaGreatDoor.X
open Go.RowKit Go.Proofs.YtfcalbjebomgcaaGreatDoorW.PrintWords Go.Proofs.YtfcalbjebomgcaaGreatDoorW.PrintLast Go.Proofs.YtfcalbjebomgcaaGreatDoorW.PrintMore Go.Proofs.YtfcalbjebomgcaaGreatDoor.Q

theorem fineRow_intro (r : S31) (h1 : (groupOf xfsGroups r.f0).isSome = true) (hA : (r.f0.toList == [103, 99]) = false) (hS : sizedB r ((groupOf xfsGroups r.f0).getD z52).f2.length = true) (h3 : (r.f0.toList == [120, 112, 99] || (r.f0.toList == [100, 101, 102, 101, 114, 95, 114, 101, 108, 111, 103] || r.f1.all (fun n => decide (n < 4294967296)))) = true) : fineRow r = true := by
  unfold fineRow
  cases hg : groupOf xfsGroups r.f0 with
  | none => rw [hg] at h1; cases h1
  | some g =>
    rw [hg] at hS
    have hS' : (r.f1.length == g.f2.length && r.f2.length == 0) = true := hS
    dsimp only
    rw [hA, h3, hS']
    rfl

set_option maxHeartbeats 8000000 in
set_option maxRecDepth 100000 in
theorem xfsFine_calls (l : List S31) (A : Option Addr) (c : Nat) (w : World) (hr : Kd.C k31 w A l.length l) (hc : l.length ≤ c) :
    Calls Tryz.prog 13 #[.slice A l.length c] w fun e w' => ∃ b, e = .returned (.bool b) ∧ (b = true → FineRows l) ∧ Below w.heap.size w w' := by
  have HR := Aside0.mk hr
  have HLC := Aside0.mk hc
  have hm : l.length ≤ 9223372036854775807 := hr.2.1
  have hu52 := Tryz.underlying52
  have hu31 := Tryz.underlying31
  clear hr hc
  go_enter Tryz.func13, Tryz.ntmps13
  go_wp2
  go_loopw [9] (fun v9 w' => ∃ i : Nat, i ≤ l.length ∧ v9 = .int .i64 i ∧ Aside0 (∀ j, j < i → fineRow (l.getD j z31) = true) ∧ Aside0 (Below w.heap.size w w')) (fun v9 _ => l.length - (intOf v9).toNat)
  case atStart => exact ⟨0, Nat.zero_le _, rfl, ⟨fun j hj => absurd hj (Nat.not_lt_zero _)⟩, ⟨Below.refl _ _⟩⟩
  case round =>
    obtain ⟨i, hi, rfl, HN, HB⟩ := hrel
    by_cases hlt : i < l.length
    · obtain ⟨ad, A1, c1, A2, c2, e, h0, h1, h2, hl1, hC1, hl2, hC2⟩ := at_T31 HR.out (i : Int) (Int.natCast_nonneg _) (by omega)
      cases e
      rw [Int.toNat_natCast] at h0 h1 h2
      have e0 : rd_T31 l (i : Int) = l.getD i z31 := by rw [rd_T31, Int.toNat_natCast]
      rw [e0] at h0 h1 h2 hl1 hC1 hl2 hC2
      have HE : Aside0 (∃ r, r = l.getD i z31) := ⟨⟨_, rfl⟩⟩
      generalize hrr : l.getD i z31 = r at *
      replace hrr := Aside0.mk hrr
      clear HE
      replace h0 := (HB.out.cell (World.block_lt_of_cell? w _ h0)).trans h0
      replace h1 := (HB.out.cell (World.block_lt_of_cell? w _ h1)).trans h1
      replace h2 := (HB.out.cell (World.block_lt_of_cell? w _ h2)).trans h2
      have HC1 := Aside0.mk hC1
      have HL1 := Aside0.mk hl1
      have HC2 := Aside0.mk hC2
      have HL2 := Aside0.mk hl2
      clear hC1 hl1 hC2 hl2 e0
      go_upto_region 4 with (fail)
      have BK0 := blk_new wr (.cells #[.string r.f0, .slice A1 r.f1.length c1, .slice A2 r.f2.length c2] 31 (0, 0))
      have HB0 := below_alloc HB.out (.cells #[.string r.f0, .slice A1 r.f1.length c1, .slice A2 r.f2.length c2] 31 (0, 0))
      have HG0 := HB.out.size
      clear h0 h1 h2 HB
      generalize wr.alloc (.cells #[.string r.f0, .slice A1 r.f1.length c1, .slice A2 r.f2.length c2] 31 (0, 0)) = W1 at *
      generalize wr.heap.size = g at *
      have HK := Aside0.mk (show KeepS g (.cells #[.string r.f0, .slice A1 r.f1.length c1, .slice A2 r.f2.length c2] 31 (0, 0)) w W1 from ⟨BK0, HB0⟩)
      have k0 : W1.cell? ⟨g, 0, none⟩ = some (.string r.f0) := (blk_cell BK0 0).trans rfl
      have HG := Aside0.mk HG0
      clear BK0 HB0 HG0
      go_cut [5, 6] (fun v5 v6 w' => ∃ b A3 c3, v5 = .pointer (some ⟨b, 0, none⟩) ∧ v6 = .bool (groupOf xfsGroups r.f0).isSome ∧ Aside0 (w'.cell? ⟨b, 2, none⟩ = some (.slice A3 ((groupOf xfsGroups r.f0).getD z52).f2.length c3)) ∧ Aside0 (KeepS g (.cells #[.string r.f0, .slice A1 r.f1.length c1, .slice A2 r.f2.length c2] 31 (0, 0)) w w'))
      case first =>
        have HGn := Aside0.mk (rfl : groupOf xfsGroups r.f0 = groupOf xfsGroups r.f0)
        go_region_held3 (fun w' => w'.cell? ⟨g, 0, none⟩ = some (.string r.f0) ∧ Aside0 (KeepS g (.cells #[.string r.f0, .slice A1 r.f1.length c1, .slice A2 r.f2.length c2] 31 (0, 0)) w w')) (first | exact keepR HK.out.drew | exact keepR (HK.out.alloc _).drew | assumption | (refine keepR_below ?_ hB; assumption) | (refine keepR_alloc ?_ _; assumption) | (refine keepR_swap (t := 52) (cs := #[.string ⟨#[]⟩, .string ⟨#[]⟩, .slice none 0 0]) (fr := (0, 0)) ?_ (by decide) HG.out _; assumption) | (refine keepR_far3 HZ.out ?_; assumption)) (first | (go_at_call 16; refine (xfsLines_calls _).mono ?_; rintro e w' ⟨g', rfl, hC, hB⟩; replace hC := Kd.F_now hC; try ((first | have hz := alloc_kept (by assumption) HG.out hB | have hz := alloc_keptD (by assumption) HG.out hB); have HZ := Aside0.mk hz; clear hz)) | (go_at_call 29; refine (lineX r.f0 _ _ ?_).mono ?_; (first | exact hC | exact Kd.C_alloc hC _); rintro e w' ⟨s1, s2, A3, c3, rfl, hB⟩; try ((first | have hz := ZF.below HZ.out hB | have hz := alloc_kept (by assumption) HG.out hB | have hz := alloc_keptD (by assumption) HG.out hB); (have z0 := (blk_cell hz.1 0).trans (show _ = some (Value.string ⟨#[]⟩) from rfl); have z1 := (blk_cell hz.1 1).trans (show _ = some (Value.string ⟨#[]⟩) from rfl); have z2 := (blk_cell hz.1 2).trans (show _ = some (Value.slice none 0 0) from rfl); have y0 := blk_frozen hz.1 0; have y1 := blk_frozen hz.1 1; have y2 := blk_frozen hz.1 2); have HZ := Aside0.mk hz; clear hz)))
        all_goals (go_wp2_with fail)
        all_goals go_meet
        all_goals rename_i hh
        all_goals refine ⟨_, A3, c3, rfl, rfl, ⟨?_⟩, hh.2⟩
        · exact (blk_cell (blk_new _ _) 2).trans rfl
        · exact (blk_cell (blk_put (blk_put (blk_put HZ.out.1 0 _ rfl) 1 _ rfl) 2 _ rfl) 2).trans rfl
        · exact (blk_cell (blk_put (blk_put (blk_put HZ.out.1 0 _ rfl) 1 _ rfl) 2 _ rfl) 2).trans rfl
      case rest =>
        obtain ⟨b, A3, c3, rfl, rfl, HCL, HKK⟩ := hcut
        have kk0 : wc.cell? ⟨g, 0, none⟩ = some (.string r.f0) := (blk_cell HKK.out.1 0).trans rfl
        have kk1 : wc.cell? ⟨g, 1, none⟩ = some (.slice A1 r.f1.length c1) := (blk_cell HKK.out.1 1).trans rfl
        have kk2 : wc.cell? ⟨g, 2, none⟩ = some (.slice A2 r.f2.length c2) := (blk_cell HKK.out.1 2).trans rfl
        have b2 := HCL.out
        clear HCL
        obtain ⟨n, Hn⟩ : ∃ n, Aside0 (((groupOf xfsGroups r.f0).getD z52).f2.length = n) := ⟨_, ⟨rfl⟩⟩
        rw [Hn.out] at b2
        obtain ⟨bG, HG1⟩ : ∃ x, Aside0 ((groupOf xfsGroups r.f0).isSome = x) := ⟨_, ⟨rfl⟩⟩
        obtain ⟨bA, HA⟩ : ∃ x, Aside0 ((r.f0.toList == [103, 99]) = x) := ⟨_, ⟨rfl⟩⟩
        obtain ⟨bS, HS⟩ : ∃ x, Aside0 (sizedB r n = x) := ⟨_, ⟨rfl⟩⟩
        obtain ⟨bX, HX⟩ : ∃ x, Aside0 ((r.f0.toList == [120, 112, 99]) = x) := ⟨_, ⟨rfl⟩⟩
        obtain ⟨bD, HD⟩ : ∃ x, Aside0 ((r.f0.toList == [100, 101, 102, 101, 114, 95, 114, 101, 108, 111, 103]) = x) := ⟨_, ⟨rfl⟩⟩
        obtain ⟨bM, HM⟩ : ∃ x, Aside0 ((r.f1.all (fun n => decide (n < 4294967296))) = x) := ⟨_, ⟨rfl⟩⟩
        rw [HG1.out]
        cases bG
        · go_wp2_with fail
          go_ret
          exact ⟨false, rfl, fun h => absurd h (by decide), HKK.out.2⟩
        · have hA := HA.out
          cases bA
          case true =>
            go_wp2_with fail
            go_ret
            exact ⟨false, rfl, fun h => absurd h (by decide), HKK.out.2⟩
          case false =>
            cases bS
            case false =>
              go_wp2_with (first | (go_at_call 30; refine (sizedX r A1 c1 A2 c2 n _ ?_ HL1.out ?_ HL2.out).mono ?_; (exact Kd.C_below HC1.out HKK.out.2); (exact Kd.C_below HC2.out HKK.out.2); rintro e w' ⟨he, hB⟩; rw [HS.out] at he; subst he; have HK2 := Aside0.mk (HKK.out.below hB); have q0 := (blk_cell HK2.out.1 0).trans (show _ = some (Value.string r.f0) from rfl); have q1 := (blk_cell HK2.out.1 1).trans (show _ = some (Value.slice A1 r.f1.length c1) from rfl)))
              go_ret
              exact ⟨false, rfl, fun h => absurd h (by decide), HK2.out.2⟩
            case true =>
              have hX := HX.out
              have hX' : (r.f0.toList != [120, 112, 99]) = !bX := congrArg (!·) HX.out
              cases bX
              case true =>
                go_wp2_with (first | (go_at_call 30; refine (sizedX r A1 c1 A2 c2 n _ ?_ HL1.out ?_ HL2.out).mono ?_; (exact Kd.C_below HC1.out HKK.out.2); (exact Kd.C_below HC2.out HKK.out.2); rintro e w' ⟨he, hB⟩; rw [HS.out] at he; subst he; have HK2 := Aside0.mk (HKK.out.below hB); have q0 := (blk_cell HK2.out.1 0).trans (show _ = some (Value.string r.f0) from rfl); have q1 := (blk_cell HK2.out.1 1).trans (show _ = some (Value.slice A1 r.f1.length c1) from rfl)))
                go_roundw
                case measure => simp [intOf]; omega
                case rel => exact ⟨i + 1, by omega, by go_num, ⟨fun j hj => by rcases Nat.lt_or_ge j i with h | h; exact HN.out j h; (obtain rfl : j = i := by omega); rw [hrr.out]; exact fineRow_intro r HG1.out HA.out (Hn.out ▸ HS.out) (by rw [HX.out]; rfl)⟩, ⟨HK2.out.2⟩⟩
              case false =>
                have hD := HD.out
                have hD' : (r.f0.toList != [100, 101, 102, 101, 114, 95, 114, 101, 108, 111, 103]) = !bD := congrArg (!·) HD.out
                cases bD
                case true =>
                  go_wp2_with (first | (go_at_call 30; refine (sizedX r A1 c1 A2 c2 n _ ?_ HL1.out ?_ HL2.out).mono ?_; (exact Kd.C_below HC1.out HKK.out.2); (exact Kd.C_below HC2.out HKK.out.2); rintro e w' ⟨he, hB⟩; rw [HS.out] at he; subst he; have HK2 := Aside0.mk (HKK.out.below hB); have q0 := (blk_cell HK2.out.1 0).trans (show _ = some (Value.string r.f0) from rfl); have q1 := (blk_cell HK2.out.1 1).trans (show _ = some (Value.slice A1 r.f1.length c1) from rfl)))
                  go_roundw
                  case measure => simp [intOf]; omega
                  case rel => exact ⟨i + 1, by omega, by go_num, ⟨fun j hj => by rcases Nat.lt_or_ge j i with h | h; exact HN.out j h; (obtain rfl : j = i := by omega); rw [hrr.out]; exact fineRow_intro r HG1.out HA.out (Hn.out ▸ HS.out) (by rw [HD.out]; simp)⟩, ⟨HK2.out.2⟩⟩
                case false =>
                  cases bM
                  case true =>
                    go_wp2_with (first | (go_at_call 30; refine (sizedX r A1 c1 A2 c2 n _ ?_ HL1.out ?_ HL2.out).mono ?_; (exact Kd.C_below HC1.out HKK.out.2); (exact Kd.C_below HC2.out HKK.out.2); rintro e w' ⟨he, hB⟩; rw [HS.out] at he; subst he; have HK2 := Aside0.mk (HKK.out.below hB); have q0 := (blk_cell HK2.out.1 0).trans (show _ = some (Value.string r.f0) from rfl); have q1 := (blk_cell HK2.out.1 1).trans (show _ = some (Value.slice A1 r.f1.length c1) from rfl)) | (go_at_call 31; refine (smallX 4294967296 A1 c1 r.f1 _ ?_ HL1.out).mono ?_; (exact Kd.C_below HC1.out HK2.out.2); rintro e w' ⟨he, hDr⟩; rw [HM.out] at he; subst he))
                    obtain ⟨nd, rfl⟩ := hDr.out
                    go_roundw
                    case measure => simp [intOf]; omega
                    case rel => exact ⟨i + 1, by omega, by go_num, ⟨fun j hj => by rcases Nat.lt_or_ge j i with h | h; exact HN.out j h; (obtain rfl : j = i := by omega); rw [hrr.out]; exact fineRow_intro r HG1.out HA.out (Hn.out ▸ HS.out) (by rw [HM.out]; simp)⟩, ⟨pw_below_drewN HK2.out.2 nd⟩⟩
                  case false =>
                    go_wp2_with (first | (go_at_call 30; refine (sizedX r A1 c1 A2 c2 n _ ?_ HL1.out ?_ HL2.out).mono ?_; (exact Kd.C_below HC1.out HKK.out.2); (exact Kd.C_below HC2.out HKK.out.2); rintro e w' ⟨he, hB⟩; rw [HS.out] at he; subst he; have HK2 := Aside0.mk (HKK.out.below hB); have q0 := (blk_cell HK2.out.1 0).trans (show _ = some (Value.string r.f0) from rfl); have q1 := (blk_cell HK2.out.1 1).trans (show _ = some (Value.slice A1 r.f1.length c1) from rfl)) | (go_at_call 31; refine (smallX 4294967296 A1 c1 r.f1 _ ?_ HL1.out).mono ?_; (exact Kd.C_below HC1.out HK2.out.2); rintro e w' ⟨he, hDr⟩; rw [HM.out] at he; subst he))
                    obtain ⟨nd, rfl⟩ := hDr.out
                    go_ret
                    exact ⟨false, rfl, fun h => absurd h (by decide), pw_below_drewN HK2.out.2 nd⟩
    · go_wp2_with fail
      refine (distinctX l A c wr (Kd.C_below HR.out HB.out) HLC.out).mono ?_
      rintro e w' ⟨b, rfl, hb, hB⟩
      have Hb := Aside0.mk hb
      have HB' := Aside0.mk hB
      clear hb hB
      go_wp2_with fail
      go_ret
      refine ⟨b, rfl, fun h => ⟨?_, Hb.out h⟩, below_step HB.out HB'.out⟩
      intro j hj
      exact HN.out j (by omega)
end Go.Proofs.YtfcalbjebomgcaaGreatDoor.X
