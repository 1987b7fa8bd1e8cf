/- pointer and the door's closure: a record of what a pointer points to. -/
import Derived.Test.YtfcalbjebomgcaaGreatDoorM15
import Derived.Test.YtfcalbjebomgcaaGreatDoorM10
import Derived.Test.YtfcalbjebomgcaaGreatDoorM13
set_option linter.unusedVariables false
set_option linter.unusedSimpArgs false
namespace Go.Proofs.YtfcalbjebomgcaaGreatDoor.X
open Go.RowKit Go.Proofs.YtfcalbjebomgcaaGreatDoorW.PrintWords Go.Proofs.YtfcalbjebomgcaaGreatDoorW.PrintLast Go.Proofs.YtfcalbjebomgcaaGreatDoorW.PrintMore Go.Proofs.YtfcalbjebomgcaaGreatDoor.Q
attribute [local go_sem] run_store_float

theorem stat_size (nm : ByteArray) (M : Nat → List Int) (hM : StatOk M) : (statArgs nm M).toList.length = statLens.sum + 1 := by
  have h := stat_lens M hM
  simp only [statArgs, List.length_cons, List.length_flatten, h]
set_option maxHeartbeats 4000000 in
set_option maxRecDepth 100000 in
theorem pointer_calls (name : ByteArray) (args : Array Value) (xs : List S43) (hn : args.toList.length = statLens.sum + 1) (hc : ∀ w1, Calls Tryz.prog 25 #[.string name, .agg args] w1 (RecPost w1 name xs)) (b : Nat) (w : World) (hb : w.heap[b]? = some (.cells args 123 (0, 0))) :
    Calls Tryz.prog 24 #[.string name, .pointer (some ⟨b, 0, none⟩), .func (.func 25) #[] #[]] w (RecPost w name xs) := by
  have hu43 := Tryz.underlying43
  have HC := Aside0.mk hc
  have HB := Aside0.mk hb
  have HN := Aside0.mk hn
  clear hc hb hn
  go_enter Tryz.func24, Tryz.ntmps24
  go_wp2_with ((with_reducible refine gate_dst (N := 15) rfl ?_); refine wpList_load_mid rfl 123 (.tmp 14) rfl b 0 rfl args.toList _ ?hr Tryz.underlying123 rfl (by rw [HN.out]; kernel_rfl) ?_; (case hr => intro j v hj; rw [Nat.zero_add]; exact (blk_cell (blk_alloc HB.out _) j).trans (by rw [← Array.getElem?_toList]; exact hj)))
  have hZ0 := blk_new w (.cells #[.string ⟨#[]⟩, .int .i64 0, .bool false, .int .i64 0, .int .u64 0, .float .f64 0, .string ⟨#[]⟩, .slice none 0 0] 43 (0, 0))
  have hB0 := below_alloc (Below.refl w.heap.size w) (.cells #[.string ⟨#[]⟩, .int .i64 0, .bool false, .int .i64 0, .int .u64 0, .float .f64 0, .string ⟨#[]⟩, .slice none 0 0] 43 (0, 0))
  have hs0 : (w.alloc (.cells #[.string ⟨#[]⟩, .int .i64 0, .bool false, .int .i64 0, .int .u64 0, .float .f64 0, .string ⟨#[]⟩, .slice none 0 0] 43 (0, 0))).heap.size = w.heap.size + 1 := World.size_alloc _ _
  refine (HC.out _).mono ?_
  rintro e w2 ⟨A, c, rfl, hl, hF, hB2⟩
  have HZ := Aside0.mk (blk_below hZ0 hB2)
  have HB2 := Aside0.mk (below_step hB0 hB2)
  have HF := Aside0.mk (Kd.F_mono hF (ok' := fun k => w.heap.size + 1 ≤ k) (fun k hk => by omega))
  have HL := Aside0.mk hl
  clear hZ0 hB0 hs0 hF hB2 hl
  have z0 : ∀ j, w2.cell? ⟨w.heap.size, j, none⟩ = (#[.string ⟨#[]⟩, .int .i64 0, .bool false, .int .i64 0, .int .u64 0, .float .f64 0, .string ⟨#[]⟩, .slice none 0 0] : Array Value)[j]? := fun j => (blk_cell HZ.out j)
  have f0 : ∀ j, w2.frozen? ⟨w.heap.size, j, none⟩ = false := fun j => blk_frozen HZ.out j
  go_wp2_with fail
  refine bodyPost_ret (results_cell_row rfl _ _ w.heap.size 43 _ (0, 0) _ rfl (put8 HZ.out _ _ _ _ _ _ _ _) hu43 rfl (by kernel_rfl)) rfl ?_
  refine ⟨A, c, rfl, HL.out, ?_, below_put8 HB2.out (Nat.le_refl _) _ _ _ _ _ _ _ _⟩
  exact Kd.F_mono (Kd.V_at (V_put8 (Kd.V_mk (e := 43) (base := 0) HL.out HF.out) (fun k hk => by show k ≠ w.heap.size; omega) _ _ _ _ _ _ _ _)).2.2 (fun k hk => by omega)
set_option maxHeartbeats 4000000 in
set_option maxRecDepth 100000 in
theorem door2_calls (args : Array Value) (xs : List S43) (hn : args.toList.length = statLens.sum + 1) (hc : ∀ w1, Calls Tryz.prog 25 #[.string ⟨#[]⟩, .agg args] w1 (RecPost w1 ⟨#[]⟩ xs)) (b : Nat) (w : World) (hb : w.heap[b]? = some (.cells args 123 (0, 0))) :
    Calls Tryz.prog 23 #[.pointer (some ⟨b, 0, none⟩)] w (RecPost w ⟨#[]⟩ xs) := by
  have hu43 := Tryz.underlying43
  have HC := Aside0.mk hc
  have HB := Aside0.mk hb
  have HN := Aside0.mk hn
  clear hc hb hn
  go_enter Tryz.func23, Tryz.ntmps23
  go_wp2_with fail
  have hZ0 := blk_new w (.cells #[.string ⟨#[]⟩, .int .i64 0, .bool false, .int .i64 0, .int .u64 0, .float .f64 0, .string ⟨#[]⟩, .slice none 0 0] 43 (0, 0))
  have hB0 := below_alloc (Below.refl w.heap.size w) (.cells #[.string ⟨#[]⟩, .int .i64 0, .bool false, .int .i64 0, .int .u64 0, .float .f64 0, .string ⟨#[]⟩, .slice none 0 0] 43 (0, 0))
  have hs0 : (w.alloc (.cells #[.string ⟨#[]⟩, .int .i64 0, .bool false, .int .i64 0, .int .u64 0, .float .f64 0, .string ⟨#[]⟩, .slice none 0 0] 43 (0, 0))).heap.size = w.heap.size + 1 := World.size_alloc _ _
  refine (pointer_calls ⟨#[]⟩ args xs HN.out HC.out b _ (blk_alloc HB.out _)).mono ?_
  rintro e w2 ⟨A, c, rfl, hl, hF, hB2⟩
  have HZ := Aside0.mk (blk_below hZ0 hB2)
  have HB2 := Aside0.mk (below_step hB0 hB2)
  have HF := Aside0.mk (Kd.F_mono hF (ok' := fun k => w.heap.size + 1 ≤ k) (fun k hk => by omega))
  have HL := Aside0.mk hl
  clear hZ0 hB0 hs0 hF hB2 hl
  have z0 : ∀ j, w2.cell? ⟨w.heap.size, j, none⟩ = (#[.string ⟨#[]⟩, .int .i64 0, .bool false, .int .i64 0, .int .u64 0, .float .f64 0, .string ⟨#[]⟩, .slice none 0 0] : Array Value)[j]? := fun j => (blk_cell HZ.out j)
  have f0 : ∀ j, w2.frozen? ⟨w.heap.size, j, none⟩ = false := fun j => blk_frozen HZ.out j
  go_wp2_with fail
  refine bodyPost_ret (results_cell_row rfl _ _ w.heap.size 43 _ (0, 0) _ rfl (put8 HZ.out _ _ _ _ _ _ _ _) hu43 rfl (by kernel_rfl)) rfl ?_
  refine ⟨A, c, rfl, HL.out, ?_, below_put8 HB2.out (Nat.le_refl _) _ _ _ _ _ _ _ _⟩
  exact Kd.F_mono (Kd.V_at (V_put8 (Kd.V_mk (e := 43) (base := 0) HL.out HF.out) (fun k hk => by show k ≠ w.heap.size; omega) _ _ _ _ _ _ _ _)).2.2 (fun k hk => by omega)
end Go.Proofs.YtfcalbjebomgcaaGreatDoor.X

/- ParseStats's body as a term over its arms, and that the program's body is that term. (Written by a program of this claim.) -/
namespace Go.Proofs.YtfcalbjebomgcaaGreatDoor.X
open Go.RowKit Go.Proofs.YtfcalbjebomgcaaGreatDoorW.PrintWords Go.Proofs.YtfcalbjebomgcaaGreatDoorW.PrintLast Go.Proofs.YtfcalbjebomgcaaGreatDoorW.PrintMore Go.Proofs.YtfcalbjebomgcaaGreatDoor.Q
def mkG (pos : String) (dst : Option Nat) (op : Op) (ty : TypeId) (after : List Edge) (g : Option (Nat × Bool)) : Oper := ⟨dst, op, ty, pos, after.toArray, g⟩
/-- us, err := parse(ss[1:]) -/
def parseOps (p : String) (s us err F rt st : Nat) : List Oper :=
  [mkO p (some (s + 1)) (.move (.tmp 6)) 29 [],
   mkO p (some (s + 2)) (.slice 29 (.tmp (s + 1)) (some (.const (.int .i64 1))) none none) 29 [⟨0, .data⟩],
   mkO p (some (s + 3)) (.call { callee := .value (.func F), args := #[.tmp (s + 2)], argTypes := #[29] }) rt [⟨1, .data⟩],
   mkO p (some s) (.move (.tmp (s + 3))) rt [⟨2, .data⟩],
   mkO p (some (s + 4)) (.extract (.tmp s) 0) st [⟨3, .data⟩],
   mkO p (some (s + 5)) (.extract (.tmp s) 1) 59 [⟨3, .data⟩, ⟨6, .gcOnly .lateStores⟩],
   mkO p (some us) (.assign (.tmp (s + 4))) st [⟨4, .data⟩, ⟨2, .chain⟩, ⟨0, .phase⟩, ⟨1, .phase⟩, ⟨2, .phase⟩, ⟨3, .phase⟩, ⟨4, .phase⟩, ⟨5, .textOnly .lateStores⟩],
   mkO p (some err) (.assign (.tmp (s + 5))) 59 [⟨5, .data⟩, ⟨6, .chain⟩, ⟨0, .phase⟩, ⟨1, .phase⟩, ⟨2, .phase⟩, ⟨3, .phase⟩, ⟨4, .phase⟩, ⟨5, .phase⟩, ⟨6, .phase⟩]]
/-- field, err = builder(us) -/
def storeOps (p : String) (s us err F rt T st j : Nat) : List Oper :=
  [mkO p (some (s + 1)) (.move (.tmp us)) st [],
   mkO p (some (s + 2)) (.call { callee := .value (.func F), args := #[.tmp (s + 1)], argTypes := #[st] }) rt [⟨0, .data⟩],
   mkO p (some s) (.move (.tmp (s + 2))) rt [⟨1, .data⟩],
   mkO p (some (s + 3)) (.extract (.tmp s) 0) T [⟨2, .data⟩],
   mkO p (some (s + 4)) (.extract (.tmp s) 1) 59 [⟨2, .data⟩, ⟨6, .gcOnly .lateStores⟩],
   mkO p (some (s + 5)) (.fieldAddr 123 (.tmp 4) j) 0 [⟨0, .phase⟩, ⟨1, .phase⟩, ⟨2, .phase⟩, ⟨3, .phase⟩, ⟨4, .textOnly .lateStores⟩],
   mkO p none (.store T (.tmp (s + 5)) (.tmp (s + 3))) 0 [⟨5, .data⟩, ⟨3, .data⟩, ⟨1, .chain⟩, ⟨0, .phase⟩, ⟨1, .phase⟩, ⟨2, .phase⟩, ⟨3, .phase⟩, ⟨4, .textOnly .lateStores⟩],
   mkO p (some err) (.assign (.tmp (s + 4))) 59 [⟨4, .data⟩, ⟨6, .chain⟩, ⟨0, .phase⟩, ⟨1, .phase⟩, ⟨2, .phase⟩, ⟨3, .phase⟩, ⟨4, .phase⟩, ⟨5, .phase⟩, ⟨6, .phase⟩]]
/-- err != nil -/
def errOps (p : String) (s err : Nat) : List Oper := [mkO p (some s) (.move (.tmp err)) 59 [], mkO p (some (s + 1)) (.binOp .neq 59 (.tmp s) (.const .nilIface) 59) 4 [⟨0, .data⟩]]
structure Arm where
  p0 : String
  p1 : String
  label : ByteArray
  F : Nat
  T : Nat
  j : Nat
  rt : Nat
def armsCode : List Arm → Nat → Nat → Code
  | [], _, _ => .skip
  | x :: l, r, s => .seq (.region r #[mkO x.p0 (some (s + 1)) (.binOp .eql 9 (.tmp 110) (.const (.string x.label)) 9) 4 [], mkO x.p0 (some s) (.assign (.tmp (s + 1))) 4 [⟨0, .data⟩]] false)
      (.cond (.tmp s) (.region (r + 1) (storeOps x.p1 (s + 2) 14 15 x.F x.rt x.T 149 x.j).toArray false) (armsCode l (r + 2) (s + 8)))
def lft : Code → Code | .seq a _ => a | c => c
def rgt : Code → Code | .seq _ b => b | c => c
def inn : Code → Code | .block _ c => c | .loop c => c | c => c
def thn : Code → Code | .cond _ a _ => a | c => c
noncomputable def theBody : Code := Tryz.f21.body.getD .skip
def arms : List Arm :=
  [⟨ "parse.go:126", "parse.go:127", ⟨#[101, 120, 116, 101, 110, 116, 95, 97, 108, 108, 111, 99]⟩, 46, 68, 1, 152⟩,
   ⟨ "parse.go:128", "parse.go:129", ⟨#[97, 98, 116]⟩, 47, 70, 2, 154⟩,
   ⟨ "parse.go:130", "parse.go:131", ⟨#[98, 108, 107, 95, 109, 97, 112]⟩, 48, 72, 3, 156⟩,
   ⟨ "parse.go:132", "parse.go:133", ⟨#[98, 109, 98, 116]⟩, 47, 70, 4, 154⟩,
   ⟨ "parse.go:134", "parse.go:135", ⟨#[100, 105, 114]⟩, 49, 74, 5, 158⟩,
   ⟨ "parse.go:136", "parse.go:137", ⟨#[116, 114, 97, 110, 115]⟩, 50, 76, 6, 160⟩,
   ⟨ "parse.go:138", "parse.go:139", ⟨#[105, 103]⟩, 51, 78, 7, 162⟩,
   ⟨ "parse.go:140", "parse.go:141", ⟨#[108, 111, 103]⟩, 52, 80, 8, 164⟩,
   ⟨ "parse.go:142", "parse.go:143", ⟨#[114, 119]⟩, 53, 82, 9, 166⟩,
   ⟨ "parse.go:144", "parse.go:145", ⟨#[97, 116, 116, 114]⟩, 54, 84, 10, 168⟩,
   ⟨ "parse.go:146", "parse.go:147", ⟨#[105, 99, 108, 117, 115, 116, 101, 114]⟩, 55, 86, 11, 170⟩,
   ⟨ "parse.go:148", "parse.go:149", ⟨#[118, 110, 111, 100, 101, 115]⟩, 56, 88, 12, 172⟩,
   ⟨ "parse.go:150", "parse.go:151", ⟨#[98, 117, 102]⟩, 57, 90, 13, 174⟩,
   ⟨ "parse.go:152", "parse.go:153", ⟨#[112, 117, 115, 104, 95, 97, 105, 108]⟩, 58, 96, 16, 176⟩,
   ⟨ "parse.go:154", "parse.go:155", ⟨#[120, 115, 116, 114, 97, 116]⟩, 59, 94, 15, 178⟩,
   ⟨ "parse.go:156", "parse.go:157", ⟨#[97, 98, 116, 98, 50]⟩, 60, 102, 19, 180⟩,
   ⟨ "parse.go:158", "parse.go:159", ⟨#[97, 98, 116, 99, 50]⟩, 61, 103, 20, 182⟩,
   ⟨ "parse.go:160", "parse.go:161", ⟨#[98, 109, 98, 116, 50]⟩, 62, 104, 21, 184⟩,
   ⟨ "parse.go:162", "parse.go:163", ⟨#[105, 98, 116, 50]⟩, 63, 105, 22, 186⟩,
   ⟨ "parse.go:164", "parse.go:165", ⟨#[102, 105, 98, 116, 50]⟩, 64, 106, 23, 188⟩,
   ⟨ "parse.go:166", "parse.go:167", ⟨#[114, 109, 97, 112, 98, 116]⟩, 65, 107, 24, 190⟩,
   ⟨ "parse.go:168", "parse.go:169", ⟨#[114, 101, 102, 99, 110, 116, 98, 116]⟩, 66, 108, 25, 192⟩,
   ⟨ "parse.go:170", "parse.go:171", ⟨#[114, 109, 97, 112, 98, 116, 95, 109, 101, 109]⟩, 67, 109, 26, 194⟩,
   ⟨ "parse.go:172", "parse.go:173", ⟨#[114, 99, 98, 97, 103, 98, 116]⟩, 68, 110, 27, 196⟩,
   ⟨ "parse.go:174", "parse.go:175", ⟨#[114, 116, 114, 109, 97, 112, 98, 116]⟩, 69, 111, 28, 198⟩,
   ⟨ "parse.go:176", "parse.go:177", ⟨#[114, 116, 114, 109, 97, 112, 98, 116, 95, 109, 101, 109]⟩, 70, 112, 29, 200⟩,
   ⟨ "parse.go:178", "parse.go:179", ⟨#[114, 116, 114, 101, 102, 99, 110, 116, 98, 116]⟩, 71, 113, 30, 202⟩,
   ⟨ "parse.go:180", "parse.go:181", ⟨#[113, 109]⟩, 72, 100, 18, 204⟩,
   ⟨ "parse.go:182", "parse.go:183", ⟨#[100, 101, 98, 117, 103]⟩, 73, 98, 17, 206⟩,
   ⟨ "parse.go:184", "parse.go:185", ⟨#[122, 111, 110, 101, 100]⟩, 74, 115, 31, 208⟩,
   ⟨ "parse.go:186", "parse.go:187", ⟨#[109, 101, 116, 97, 102, 105, 108, 101]⟩, 75, 117, 32, 210⟩]
def reg0 : List Oper :=
  [mkO "parse.go:26" (some 2) (Go.Op.assign (Go.Operand.const (Go.Value.pointer none))) 57 [],
    mkO "parse.go:26" (some 3) (Go.Op.assign (Go.Operand.const Go.Value.nilIface)) 59 [⟨0, .chain⟩]]
def reg1 : List Oper :=
  [mkO "parse.go:64" (some 4) (Go.Op.alloc 123) 0 []]
def reg2 : List Oper :=
  [mkO "parse.go:66" (some 16) (Go.Op.move (Go.Operand.tmp 0)) 62 [],
    mkO "parse.go:66" (some 17) (Go.Op.call { callee := Go.Callee.value (Go.Operand.func 37), args := #[Go.Operand.tmp 16], argTypes := #[62] }) 136 [⟨0, .data⟩],
    mkO "parse.go:66" (some 5) (Go.Op.assign (Go.Operand.tmp 17)) 136 [⟨1, .data⟩, ⟨1, .chain⟩, ⟨0, .phase⟩, ⟨1, .phase⟩]]
def reg3 : List Oper :=
  [mkO "parse.go:67" (some 18) (Go.Op.move (Go.Operand.tmp 5)) 136 [],
    mkO "parse.go:67" (some 19) (Go.Op.call { callee := Go.Callee.value (Go.Operand.func 38), args := #[Go.Operand.tmp 18], argTypes := #[136] }) 4 [⟨0, .data⟩]]
def reg4 : List Oper :=
  [mkO "parse.go:72" (some 20) (Go.Op.move (Go.Operand.tmp 5)) 136 [],
    mkO "parse.go:72" (some 21) (Go.Op.call { callee := Go.Callee.value (Go.Operand.func 40), args := #[Go.Operand.tmp 20], argTypes := #[136] }) 139 [⟨0, .data⟩],
    mkO "parse.go:72" (some 22) (Go.Op.convert 139 9 (Go.Operand.tmp 21)) 9 [⟨1, .data⟩],
    mkO "parse.go:72" (some 23) (Go.Op.call { callee := Go.Callee.value (Go.Operand.func 39), args := #[Go.Operand.tmp 22], argTypes := #[9] }) 29 [⟨2, .data⟩, ⟨1, .chain⟩],
    mkO "parse.go:72" (some 6) (Go.Op.assign (Go.Operand.tmp 23)) 29 [⟨3, .data⟩, ⟨3, .chain⟩, ⟨0, .phase⟩, ⟨1, .phase⟩, ⟨2, .phase⟩, ⟨3, .phase⟩]]
def reg5 : List Oper :=
  [mkO "parse.go:73" (some 24) (Go.Op.move (Go.Operand.tmp 6)) 29 [],
    mkO "parse.go:73" (some 25) (Go.Op.call { callee := Go.Callee.builtin Go.Builtin.len, args := #[Go.Operand.tmp 24], argTypes := #[29] }) 3 [⟨0, .data⟩],
    mkO "parse.go:73" (some 26) (Go.Op.binOp Go.BinOp.lss 3 (Go.Operand.tmp 25) (Go.Operand.const (Go.Value.int Go.IntKind.i64 2)) 3) 4 [⟨1, .data⟩]]
def reg6 : List Oper :=
  [mkO "parse.go:76" (some 27) (Go.Op.move (Go.Operand.tmp 6)) 29 [],
    mkO "parse.go:76" (some 28) (Go.Op.indexAddr 29 (Go.Operand.tmp 27) (Go.Operand.const (Go.Value.int Go.IntKind.i64 0))) 0 [⟨0, .data⟩],
    mkO "parse.go:76" (some 29) (Go.Op.load 9 (Go.Operand.tmp 28)) 9 [⟨1, .data⟩],
    mkO "parse.go:76" (some 7) (Go.Op.assign (Go.Operand.tmp 29)) 9 [⟨2, .data⟩, ⟨0, .phase⟩, ⟨1, .phase⟩, ⟨2, .phase⟩]]
def reg7 : List Oper :=
  [mkO "parse.go:79" (some 30) (Go.Op.move (Go.Operand.tmp 7)) 9 [],
    mkO "parse.go:79" (some 31) (Go.Op.binOp Go.BinOp.eql 9 (Go.Operand.tmp 30) (Go.Operand.const (Go.Value.string { data := #[103, 99] })) 9) 4 [⟨0, .data⟩],
    mkO "parse.go:79" (some 32) (Go.Op.move (Go.Operand.tmp 31)) 4 [⟨1, .data⟩],
    mkG "parse.go:79" (some 33) (Go.Op.move (Go.Operand.tmp 6)) 29 [⟨2, .guard⟩] (some (2, true)),
    mkG "parse.go:79" (some 34) (Go.Op.call { callee := Go.Callee.builtin Go.Builtin.len, args := #[Go.Operand.tmp 33], argTypes := #[29] }) 3 [⟨3, .data⟩, ⟨2, .guard⟩] (some (2, true)),
    mkG "parse.go:79" (some 35) (Go.Op.binOp Go.BinOp.geq 3 (Go.Operand.tmp 34) (Go.Operand.const (Go.Value.int Go.IntKind.i64 3)) 3) 4 [⟨4, .data⟩, ⟨2, .guard⟩] (some (2, true)),
    mkO "parse.go:79" (some 36) (Go.Op.pick (Go.Operand.tmp 32) (Go.Operand.tmp 35) (Go.Operand.const (Go.Value.bool false))) 4 [⟨2, .data⟩, ⟨5, .data⟩],
    mkO "parse.go:79" (some 37) (Go.Op.move (Go.Operand.tmp 36)) 4 [⟨6, .data⟩, ⟨2, .chain⟩],
    mkG "parse.go:79" (some 38) (Go.Op.move (Go.Operand.tmp 6)) 29 [⟨7, .guard⟩] (some (7, true)),
    mkG "parse.go:79" (some 39) (Go.Op.indexAddr 29 (Go.Operand.tmp 38) (Go.Operand.const (Go.Value.int Go.IntKind.i64 1))) 0 [⟨8, .data⟩, ⟨7, .guard⟩] (some (7, true)),
    mkG "parse.go:79" (some 40) (Go.Op.load 9 (Go.Operand.tmp 39)) 9 [⟨9, .data⟩, ⟨7, .guard⟩] (some (7, true)),
    mkG "parse.go:79" (some 41) (Go.Op.binOp Go.BinOp.eql 9 (Go.Operand.tmp 40) (Go.Operand.const (Go.Value.string { data := #[120, 112, 99] })) 9) 4 [⟨10, .data⟩, ⟨7, .guard⟩] (some (7, true)),
    mkO "parse.go:79" (some 42) (Go.Op.pick (Go.Operand.tmp 37) (Go.Operand.tmp 41) (Go.Operand.const (Go.Value.bool false))) 4 [⟨7, .data⟩, ⟨11, .data⟩]]
def reg14 : List Oper :=
  [mkO "parse.go:92" (some 61) (Go.Op.move (Go.Operand.tmp 7)) 9 [],
    mkO "parse.go:92" (some 62) (Go.Op.binOp Go.BinOp.eql 9 (Go.Operand.tmp 61) (Go.Operand.const (Go.Value.string { data := #[120, 112, 99] })) 9) 4 [⟨0, .data⟩]]
def reg21 : List Oper :=
  [mkO "parse.go:107" (some 81) (Go.Op.move (Go.Operand.tmp 7)) 9 [],
    mkO "parse.go:107" (some 82) (Go.Op.binOp Go.BinOp.eql 9 (Go.Operand.tmp 81) (Go.Operand.const (Go.Value.string { data := #[100, 101, 102, 101, 114, 95, 114, 101, 108, 111, 103] })) 9) 4 [⟨0, .data⟩]]
def reg31 : List Oper :=
  [mkO "parse.go:125" (some 110) (Go.Op.move (Go.Operand.tmp 7)) 9 []]
def reg96 : List Oper :=
  [mkO "parse.go:194" (some 362) (Go.Op.move (Go.Operand.tmp 5)) 136 [],
    mkO "parse.go:194" (some 363) (Go.Op.call { callee := Go.Callee.value (Go.Operand.func 76), args := #[Go.Operand.tmp 362], argTypes := #[136] }) 59 [⟨0, .data⟩],
    mkO "parse.go:194" (some 2) (Go.Op.assign (Go.Operand.tmp 4)) 57 [⟨1, .chain⟩, ⟨0, .textOnly Go.Departure.lateStores⟩, ⟨1, .textOnly Go.Departure.lateStoresUnsure⟩],
    mkO "parse.go:194" (some 3) (Go.Op.assign (Go.Operand.tmp 363)) 59 [⟨1, .data⟩, ⟨2, .chain⟩, ⟨0, .phase⟩, ⟨1, .phase⟩, ⟨2, .phase⟩]]
theorem body21 : Tryz.f21.body = some (.seq (.region 0 reg0.toArray false) (.seq (.region 1 reg1.toArray false) (.seq (.region 2 reg2.toArray false) (.seq (.block 0 (.loop (.seq (.seq (.region 3 reg3.toArray false) (.cond (.tmp 19) .skip (.exit 0))) (.block 1 (.seq (.region 4 reg4.toArray false) (.seq (.seq (.region 5 reg5.toArray false) (.cond (.tmp 26) (.exit 1) .skip)) (.seq (.region 6 reg6.toArray false) (.seq (.seq (.region 7 reg7.toArray false) (.cond (.tmp 42) (thn (rgt (lft (rgt (rgt (rgt (inn (rgt (inn (inn (lft (rgt (rgt (rgt theBody)))))))))))))) .skip)) (.seq (.seq (.region 14 reg14.toArray false) (.cond (.tmp 62) (.seq (.region 15 (parseOps "parse.go:93" 63 10 11 41 141 28).toArray false) (.seq (.seq (.region 16 (errOps "parse.go:94" 69 11).toArray false) (.cond (.tmp 70) (thn (rgt (lft (rgt (thn (rgt (lft (rgt (rgt (rgt (rgt (inn (rgt (inn (inn (lft (rgt (rgt (rgt theBody))))))))))))))))))) .skip)) (.seq (.region 18 (storeOps "parse.go:98" 72 10 11 43 145 92 28 14).toArray false) (.seq (.seq (.region 19 (errOps "parse.go:99" 78 11).toArray false) (.cond (.tmp 79) (thn (rgt (lft (rgt (rgt (rgt (thn (rgt (lft (rgt (rgt (rgt (rgt (inn (rgt (inn (inn (lft (rgt (rgt (rgt theBody))))))))))))))))))))) .skip)) (.exit 1))))) .skip)) (.seq (.seq (.region 21 reg21.toArray false) (.cond (.tmp 82) (.seq (.region 22 (parseOps "parse.go:108" 83 12 13 41 141 28).toArray false) (.seq (.seq (.region 23 (errOps "parse.go:109" 89 13).toArray false) (.cond (.tmp 90) (thn (rgt (lft (rgt (thn (rgt (lft (rgt (rgt (rgt (rgt (rgt (inn (rgt (inn (inn (lft (rgt (rgt (rgt theBody)))))))))))))))))))) .skip)) (.seq (.region 25 (storeOps "parse.go:112" 92 12 13 44 147 119 28 33).toArray false) (.seq (.seq (.region 26 (errOps "parse.go:113" 98 13).toArray false) (.cond (.tmp 99) (thn (rgt (lft (rgt (rgt (rgt (thn (rgt (lft (rgt (rgt (rgt (rgt (rgt (inn (rgt (inn (inn (lft (rgt (rgt (rgt theBody)))))))))))))))))))))) .skip)) (.exit 1))))) .skip)) (.seq (.region 28 (parseOps "parse.go:120" 101 14 15 45 150 149).toArray false) (.seq (.seq (.region 29 (errOps "parse.go:121" 107 15).toArray false) (.cond (.tmp 108) (thn (rgt (lft (rgt (rgt (rgt (rgt (rgt (rgt (rgt (inn (rgt (inn (inn (lft (rgt (rgt (rgt theBody)))))))))))))))))) .skip)) (.seq (.seq (.region 31 reg31.toArray false) (.block 2 (armsCode arms 32 111))) (.seq (.region 94 (errOps "parse.go:189" 359 15).toArray false) (.cond (.tmp 360) (thn (rgt (rgt (rgt (rgt (rgt (rgt (rgt (rgt (rgt (rgt (inn (rgt (inn (inn (lft (rgt (rgt (rgt theBody))))))))))))))))))) .skip))))))))))))))) (.seq (.region 96 reg96.toArray false) .ret))))) := by kernel_rfl
end Go.Proofs.YtfcalbjebomgcaaGreatDoor.X
