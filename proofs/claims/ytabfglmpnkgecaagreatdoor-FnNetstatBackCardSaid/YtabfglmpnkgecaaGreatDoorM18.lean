/- Proc.Netstat by contract. (Written by a program of this claim.) -/
import Derived.Test.YtabfglmpnkgecaaGreatDoorM16
import Derived.Test.YtabfglmpnkgecaaGreatDoorM17
import Derived.Defers
import Derived.Recover
set_option linter.unusedVariables false
set_option linter.unusedSimpArgs false
namespace Go.Proofs.YtabfglmpnkgecaaGreatDoor.X
open Go.RowKit Go.Proofs.YtabfglmpnkgecaaGreatDoorW.PrintWords Go.Proofs.YtabfglmpnkgecaaGreatDoorW.PrintLast Go.Proofs.YtabfglmpnkgecaaGreatDoorW.PrintMore Go.Proofs.YtabfglmpnkgecaaGreatDoor.Q
attribute [local go_sem] run_store_float

def rg19_0 : List Oper :=
  [mkO "proc_netstat.go:182" (some 1) (Op.box 64 (Operand.tmp 0)) 0 [],
   mkO "proc_netstat.go:182" (some 2) (Op.alloc 58) 0 [],
   mkO "proc_netstat.go:182" (some 3) (Op.assign (Operand.const Value.nilIface)) 78 []]
def rg19_1 : List Oper :=
  [mkO "proc_netstat.go:183" (some 8) (Op.load 64 (Operand.tmp 1)) 64 [],
   mkO "proc_netstat.go:183" (some 9) (Op.buildSlice 29 1 #[(0, Operand.const (Value.string { data := #[110, 101, 116, 47, 110, 101, 116, 115, 116, 97, 116] }))]) 29 [],
   mkO "proc_netstat.go:183" (some 10) (Op.call { callee := Callee.value (Operand.func 35), args := #[Operand.tmp 8, Operand.tmp 9], argTypes := #[64, 29] }) 9 [⟨0, .data⟩, ⟨1, .data⟩],
   mkO "proc_netstat.go:183" (some 4) (Op.assign (Operand.tmp 10)) 9 [⟨2, .data⟩, ⟨2, .chain⟩, ⟨0, .phase⟩, ⟨1, .phase⟩, ⟨2, .phase⟩]]
def rg19_2 : List Oper :=
  [mkO "proc_netstat.go:184" (some 12) (Op.move (Operand.tmp 4)) 9 [],
   mkO "proc_netstat.go:184" (some 13) (Op.call { callee := Callee.value (Operand.func 36), args := #[Operand.tmp 12], argTypes := #[9] }) 83 [⟨0, .data⟩],
   mkO "proc_netstat.go:184" (some 11) (Op.move (Operand.tmp 13)) 83 [⟨1, .data⟩],
   mkO "proc_netstat.go:184" (some 14) (Op.extract (Operand.tmp 11) 0) 82 [⟨2, .data⟩],
   mkO "proc_netstat.go:184" (some 15) (Op.extract (Operand.tmp 11) 1) 78 [⟨2, .data⟩, ⟨5, .gcOnly Departure.lateStores⟩],
   mkO "proc_netstat.go:184" (some 5) (Op.assign (Operand.tmp 14)) 82 [⟨3, .data⟩, ⟨1, .chain⟩, ⟨0, .phase⟩, ⟨1, .phase⟩, ⟨2, .phase⟩, ⟨3, .phase⟩, ⟨4, .textOnly Departure.lateStores⟩],
   mkO "proc_netstat.go:184" (some 6) (Op.assign (Operand.tmp 15)) 78 [⟨4, .data⟩, ⟨5, .chain⟩, ⟨0, .phase⟩, ⟨1, .phase⟩, ⟨2, .phase⟩, ⟨3, .phase⟩, ⟨4, .phase⟩, ⟨5, .phase⟩]]
def rg19_3 : List Oper :=
  [mkO "proc_netstat.go:185" (some 16) (Op.move (Operand.tmp 6)) 78 [],
   mkO "proc_netstat.go:185" (some 17) (Op.binOp BinOp.neq 78 (Operand.tmp 16) (Operand.const Value.nilIface) 78) 4 [⟨0, .data⟩]]
def rg19_4 : List Oper :=
  [mkO "proc_netstat.go:186" (some 18) (Op.fieldAddr 64 (Operand.tmp 1) 0) 0 [],
   mkO "proc_netstat.go:186" (some 19) (Op.load 3 (Operand.tmp 18)) 3 [⟨0, .data⟩],
   mkO "proc_netstat.go:186" (some 20) (Op.build 58 #[(0, Operand.tmp 19)]) 58 [⟨1, .data⟩],
   mkO "proc_netstat.go:186" (some 21) (Op.move (Operand.tmp 6)) 78 [⟨4, .gcOnly Departure.lateStores⟩],
   mkO "proc_netstat.go:186" none (Op.store 58 (Operand.tmp 2) (Operand.tmp 20)) 0 [⟨2, .data⟩, ⟨0, .phase⟩, ⟨1, .phase⟩, ⟨2, .phase⟩, ⟨3, .textOnly Departure.lateStores⟩],
   mkO "proc_netstat.go:186" (some 3) (Op.assign (Operand.tmp 21)) 78 [⟨3, .data⟩, ⟨4, .chain⟩, ⟨0, .phase⟩, ⟨1, .phase⟩, ⟨2, .phase⟩, ⟨3, .phase⟩, ⟨4, .phase⟩]]
def rg19_5 : List Oper :=
  [mkO "proc_netstat.go:188" (some 23) (Op.move (Operand.tmp 5)) 82 [],
   mkO "proc_netstat.go:188" (some 24) (Op.convert 82 60 (Operand.tmp 23)) 60 [⟨0, .data⟩],
   mkO "proc_netstat.go:188" (some 25) (Op.move (Operand.tmp 4)) 9 [],
   mkO "proc_netstat.go:188" (some 26) (Op.call { callee := Callee.value (Operand.func 37), args := #[Operand.tmp 24, Operand.tmp 25], argTypes := #[60, 9] }) 79 [⟨1, .data⟩, ⟨2, .data⟩],
   mkO "proc_netstat.go:188" (some 22) (Op.move (Operand.tmp 26)) 79 [⟨3, .data⟩],
   mkO "proc_netstat.go:188" (some 27) (Op.extract (Operand.tmp 22) 0) 58 [⟨4, .data⟩],
   mkO "proc_netstat.go:188" (some 28) (Op.extract (Operand.tmp 22) 1) 78 [⟨4, .data⟩, ⟨8, .gcOnly Departure.lateStores⟩],
   mkO "proc_netstat.go:188" (some 7) (Op.alloc 58) 0 [],
   mkO "proc_netstat.go:188" none (Op.store 58 (Operand.tmp 7) (Operand.tmp 27)) 0 [⟨7, .data⟩, ⟨5, .data⟩, ⟨3, .chain⟩, ⟨0, .phase⟩, ⟨1, .phase⟩, ⟨2, .phase⟩, ⟨3, .phase⟩, ⟨4, .phase⟩, ⟨5, .phase⟩, ⟨6, .textOnly Departure.lateStores⟩, ⟨7, .phase⟩],
   mkO "proc_netstat.go:188" (some 6) (Op.assign (Operand.tmp 28)) 78 [⟨6, .data⟩, ⟨8, .chain⟩, ⟨0, .phase⟩, ⟨1, .phase⟩, ⟨2, .phase⟩, ⟨3, .phase⟩, ⟨4, .phase⟩, ⟨5, .phase⟩, ⟨6, .phase⟩, ⟨7, .phase⟩, ⟨8, .phase⟩]]
def rg19_6 : List Oper :=
  [mkO "proc_netstat.go:189" (some 29) (Op.fieldAddr 64 (Operand.tmp 1) 0) 0 [],
   mkO "proc_netstat.go:189" (some 30) (Op.load 3 (Operand.tmp 29)) 3 [⟨0, .data⟩],
   mkO "proc_netstat.go:189" (some 31) (Op.fieldAddr 58 (Operand.tmp 7) 0) 0 [⟨0, .phase⟩, ⟨1, .phase⟩],
   mkO "proc_netstat.go:189" none (Op.store 3 (Operand.tmp 31) (Operand.tmp 30)) 0 [⟨2, .data⟩, ⟨1, .data⟩, ⟨0, .phase⟩, ⟨1, .phase⟩]]
def rg19_7 : List Oper :=
  [mkO "proc_netstat.go:190" (some 32) (Op.load 58 (Operand.tmp 7)) 58 [],
   mkO "proc_netstat.go:190" (some 33) (Op.move (Operand.tmp 6)) 78 [⟨2, .gcOnly Departure.lateStores⟩],
   mkO "proc_netstat.go:190" none (Op.store 58 (Operand.tmp 2) (Operand.tmp 32)) 0 [⟨0, .data⟩, ⟨0, .phase⟩, ⟨1, .textOnly Departure.lateStores⟩],
   mkO "proc_netstat.go:190" (some 3) (Op.assign (Operand.tmp 33)) 78 [⟨1, .data⟩, ⟨2, .chain⟩, ⟨0, .phase⟩, ⟨1, .phase⟩, ⟨2, .phase⟩]]

def proc19 : Code := .seq (.region 0 rg19_0.toArray false) (.seq (.region 1 rg19_1.toArray false) (.seq (.region 2 rg19_2.toArray false) (.seq (.seq (.region 3 rg19_3.toArray false) (.cond (.tmp 17) (.seq (.region 4 rg19_4.toArray false) .ret) .skip))
  (.seq (.region 5 rg19_5.toArray false) (.seq (.region 6 rg19_6.toArray false) (.seq (.region 7 rg19_7.toArray false) .ret))))))
set_option maxRecDepth 100000 in
theorem body19 : Tryz.f19.body = some proc19 := by kernel_rfl
theorem path_calls (T : ByteArray) (v : Value) (w : World) : Calls Tryz.prog 35 #[.agg #[.int .i64 0, .string T], v] w fun e w' => e = .returned (.string T) ∧ Below w.heap.size w w' := by
  have hu := Tryz.underlying64
  have hu2 := Tryz.underlying62
  have hu3 := Tryz.underlying60
  go_enter Tryz.func35, Tryz.ntmps35
  go_wp2_with fail
  go_ret
  exact ⟨rfl, below_alloc (Below.refl _ _) _⟩
theorem read_calls (T : ByteArray) (hT : T.size ≤ 1000000) (w : World) : Calls Tryz.prog 36 #[.string T] w fun e w' => ∃ c, e = .returned (.tuple #[.slice (some ⟨w.heap.size, 0, none⟩) T.size c, .nilIface]) ∧ (∀ j (hj : j < T.data.toList.length), w'.cell? ⟨w.heap.size, j, none⟩ = some (.int .u8 (T.data.toList[j].toNat : Int))) ∧ Below w.heap.size w w' := by
  have hcv : ∀ W : World, (convert 9 82 (.string T)).run Tryz.prog W = .ok (.slice (some ⟨W.heap.size, 0, none⟩) T.size (grownCap W T.size 0 5)) (Lib.bytesWorld W 5 T) := fun W =>
    Lib.run_convert_string_bytes (P := Tryz.prog) W 9 82 5 T Tryz.underlying9 Tryz.underlying82 Tryz.underlying5
  have hle : ¬ (1048576 : Int) < (T.size : Int) := by omega
  have HC : Aside0 (∀ j (hj : j < T.data.toList.length), (Lib.bytesWorld w 5 T).cell? ⟨w.heap.size, j, none⟩ = some (.int .u8 (T.data.toList[j].toNat : Int))) := ⟨fun j hj => by
    rw [Lib.bytesWorld_cell w 5 T j (by rw [ba_size]; exact hj), List.getD_eq_getElem?_getD, List.getElem?_eq_getElem hj]; rfl⟩
  have HB := Aside0.mk (Lib.bytesWorld_below w 5 T)
  clear hT
  go_enter Tryz.func36, Tryz.ntmps36
  go_wp2_with fail
  go_ret2
  refine ⟨⟨_, rfl⟩, fun j hj => ?_, HB.out⟩
  have h := HC.out j (by rw [← ba_size]; exact hj)
  simpa using h
theorem o_conv60 (a : Act) (W : World) (pos : String) (s t g c : Nat) (T : ByteArray) (af : List Edge) (h : a.eval (.tmp t) = .slice (some ⟨g, 0, none⟩) T.size c) (hc : ∀ j (hj : j < T.data.toList.length), W.cell? ⟨g, j, none⟩ = some (.int .u8 (T.data.toList[j].toNat : Int))) :
  (execOp a.eval (mkO pos (some s) (.convert 82 60 (.tmp t)) 60 af)).run Tryz.prog W = .ok (.value (.string T)) W := by
  have hcv := run_convert_bytes_back (P := Tryz.prog) W 82 60 5 ⟨g, 0, none⟩ c T.data.toList Tryz.underlying82 Tryz.underlying5 Tryz.underlying60 (fun j hj => by rw [add_plain]; exact hc j hj)
  rw [ba_size] at h
  unfold execOp
  simp only [mkO, h, Sem.run_bind, hcv]
  rfl
theorem o_slice9 (a : Act) (W : World) (pos : String) (s : Nat) (S : ByteArray) (af : List Edge) :
  (execOp a.eval (mkO pos (some s) (.buildSlice 29 1 #[(0, .const (.string S))]) 29 af)).run Tryz.prog W = .ok (.value (.slice (some ⟨W.heap.size, 0, none⟩) 1 1)) (W.alloc (.cells #[.string S] 9)) := by
  have hu := Tryz.underlying9
  have hu1 := Tryz.underlying29
  simp only [execOp, mkO]
  go_simp
theorem o_store3 (a : Act) (b o : Nat) (W : World) (pos : String) (p t : Nat) (n : Int) (af : List Edge) (hp : a.eval (.tmp p) = .pointer (some ⟨b, o, none⟩)) (ht : a.eval (.tmp t) = .int .i64 n) (u : Value) (hc : W.cell? ⟨b, o, none⟩ = some u) (hf : W.frozen? ⟨b, o, none⟩ = false) :
  (execOp a.eval (mkO pos none (.store 3 (.tmp p) (.tmp t)) 0 af)).run Tryz.prog W = .ok .skip (W.setCell ⟨b, o, none⟩ (.int .i64 n)) := by
  have hu1 := Tryz.underlying3
  simp only [execOp, mkO, hp, ht]
  go_simp
theorem size64 : (Tryz.prog.info? 64).map (·.size) = some 2 := by kernel_rfl
theorem pid64 : ∃ fs f, Tryz.prog.underlying 64 = some (.struct fs) ∧ fs[0]? = some f ∧ f.offset = 0 ∧ (Tryz.prog.info? f.type).map (·.size) = some (0 + 1) := ⟨_, _, Tryz.underlying64, rfl, rfl, by kernel_rfl⟩
theorem pid58 : ∃ fs f, Tryz.prog.underlying 58 = some (.struct fs) ∧ fs[0]? = some f ∧ f.offset = 0 ∧ (Tryz.prog.info? f.type).map (·.size) = some (0 + 1) := ⟨_, _, Tryz.underlying58, rfl, rfl, by kernel_rfl⟩
theorem cells_step {W W' : World} {B : Nat} {M : Nat → Option Nat} {cs : Array Value} (h : CellsOk W B M cs) (hW : ∀ k, B < k → k < W.heap.size → W'.heap[k]? = W.heap[k]?) : CellsOk W' B M cs :=
  ⟨h.1, h.2.1, fun j hj => by obtain ⟨v, hv, hp⟩ := h.2.2 j hj; exact ⟨v, hv, hp.step hW⟩⟩
theorem cells_down {W : World} {B B' : Nat} {M : Nat → Option Nat} {cs : Array Value} (h : CellsOk W B M cs) (hB : B' ≤ B) : CellsOk W B' M cs :=
  ⟨h.1, h.2.1, fun j hj => by
    obtain ⟨v, hv, hp⟩ := h.2.2 j hj
    refine ⟨v, hv, ?_⟩
    rcases hp with hp | ⟨g, x, g1, g2, g3, g4⟩
    · exact .inl hp
    · exact .inr ⟨g, x, g1, g2, by omega, g4⟩⟩
set_option maxRecDepth 100000 in
set_option maxHeartbeats 2000000 in
theorem proc_calls (l : List S31) (hf : FineRows l) (w : World) (hv : VarsW w) :
    Calls Tryz.prog 19 #[.agg #[.int .i64 0, .string ⟨(textL l).toArray⟩]] w (ParsedPost l w) := by
  have h11 : 11 < w.heap.size := World.block_lt_of_cell? w _ hv.2.2.1
  have hTs : (⟨(textL l).toArray⟩ : ByteArray).size ≤ 1000000 := by
    rw [ba_size, ba_list]
    have := textL_len l (fine_mem hf)
    have := rows_two hf
    omega
  have HP := fun W hW => parse_calls l hf ⟨(textL l).toArray⟩ W hW
  refine calls_of_wp Tryz.func19 body19 ?_
  generalize hTT : (⟨(textL l).toArray⟩ : ByteArray) = T at *
  obtain ⟨a, ha⟩ : ∃ a : Act, a = { tmps := #[.agg #[.int .i64 0, .string T]] ++ Array.replicate (Tryz.f19.ntmps - (#[.agg #[.int .i64 0, .string T]] : Array Value).size) undef, defers := [] } := ⟨_, rfl⟩
  rw [← ha]
  have e0 : a.eval (.tmp 0) = .agg #[.int .i64 0, .string T] := by rw [ha]; simp only [Act.eval, Array.getD_eq_getD_getElem?]; rw [Array.getElem?_append_left (by simp)]; rfl
  have hd : a.defers = [] := by rw [ha]
  have hsz : a.tmps.size = 34 := by
    rw [ha]
    have : Tryz.f19.ntmps = 34 := Tryz.ntmps19
    simp [this]
  clear ha
  unfold proc19
  refine wp_seq (wp_region_lit ?_)
  unfold rg19_0
  refine Kd.event_run rfl (o_box _ _ _ _ _ _ #[.int .i64 0, .string T] _ e0) ?_
  refine Kd.event_run rfl (o_allocZ _ _ _ _ _ _ _ zero58) ?_
  refine Kd.event_run rfl (o_nil _ _ _ _ _ _ _) ?_
  refine wpList_nil ?_
  have s1 : (w.alloc (.cells #[.int .i64 0, .string T] 64)).heap.size = w.heap.size + 1 := World.size_alloc _ _
  have b1 := blk_alloc (blk_new w (.cells #[.int .i64 0, .string T] 64)) (.cells zs58 58)
  have b2 := blk_new (w.alloc (.cells #[.int .i64 0, .string T] 64)) (.cells zs58 58)
  have s2 : ((w.alloc (.cells #[.int .i64 0, .string T] 64)).alloc (.cells zs58 58)).heap.size = w.heap.size + 2 := by rw [World.size_alloc, s1]
  have hB := below_alloc (below_alloc (Below.refl w.heap.size w) (.cells #[.int .i64 0, .string T] 64)) (.cells zs58 58)
  rw [s1] at b2
  simp only [mkO]
  rw [s1]
  generalize ((w.alloc (.cells #[.int .i64 0, .string T] 64)).alloc (.cells zs58 58)) = W1 at *
  refine wp_seq (wp_region_lit ?_)
  unfold rg19_1
  refine Kd.event_run rfl (o_loadR _ w.heap.size 0 _ _ _ _ 64 [.int .i64 0, .string T] _ (by rw [ev_other (by omega), ev_other (by omega), ev_same (by omega)]) (fun j v hv => by rw [Nat.zero_add, blk_cell b1]; simpa using hv) _ Tryz.underlying64 rfl (by rw [size64]; rfl)) ?_
  refine Kd.event_run rfl (o_slice9 _ _ _ _ _ _) ?_
  have hBa := below_alloc (Below.refl W1.heap.size W1) (.cells #[.string ⟨#[110, 101, 116, 47, 110, 101, 116, 115, 116, 97, 116]⟩] 9)
  have sA := World.size_alloc W1 (.cells #[.string ⟨#[110, 101, 116, 47, 110, 101, 116, 115, 116, 97, 116]⟩] 9)
  refine goesL_ (some 10) rfl rfl Tryz.func35 (by kernel_rfl) (by kernel_rfl) #[.agg #[.int .i64 0, .string T], .slice (some ⟨W1.heap.size, 0, none⟩) 1 1] rfl ?_ ?_
  · simp only [mkO, List.map_toArray, List.map_cons, List.map_nil]
    rw [ev_same (by simp only [size_put]; omega), ev_other (by omega), ev_same (by simp only [size_put]; omega)]
  refine (path_calls T _ _).mono ?_
  rintro e W2 ⟨rfl, hB2⟩
  refine ⟨_, rfl, ?_⟩
  have hB12 := below_step hBa hB2
  refine Kd.event_run rfl (o_assign _ _ _ _ _ _ (.string T) _ (by simp only [mkO]; rw [ev_same (by first | omega | (simp only [size_put]; omega))])) ?_
  refine wpList_nil ?_
  have b12 := blk_below b1 hB12
  have b22 := blk_below b2 hB12
  have hBw2 := below_step hB hB12
  have hs12 := hB12.size
  clear b1 b2 hB hBa hB2 hB12 sA
  simp only [mkO]
  generalize hga : (((((((a.put (some 1) _).put (some 2) _).put (some 3) _).put (some 8) _).put (some 9) _).put (some 10) _).put (some 4) _) = a1
  have kz : a1.tmps.size = 34 := by rw [← hga]; simp only [size_put]; exact hsz
  have kd : a1.defers = [] := by rw [← hga]; simp only [defers_put]; exact hd
  have y1 : a1.eval (.tmp 1) = .pointer (some ⟨w.heap.size, 0, none⟩) := by
    rw [← hga]
    rw [ev_other (by omega), ev_other (by omega), ev_other (by omega), ev_other (by omega), ev_other (by omega), ev_other (by omega)]
    rw [ev_same (by omega)]
  have y2 : a1.eval (.tmp 2) = .pointer (some ⟨w.heap.size + 1, 0, none⟩) := by
    rw [← hga]
    rw [ev_other (by omega), ev_other (by omega), ev_other (by omega), ev_other (by omega), ev_other (by omega)]
    rw [ev_same (by simp only [size_put]; omega)]
  have y4 : a1.eval (.tmp 4) = .string T := by
    rw [← hga, ev_same (by simp only [size_put]; omega)]
  clear hga e0 hd hsz a
  refine wp_seq (wp_region_lit ?_)
  unfold rg19_2
  refine Kd.event_run rfl (o_move _ _ _ _ _ _ _ _ y4) ?_
  refine goesL_ (some 13) rfl rfl Tryz.func36 (by kernel_rfl) (by kernel_rfl) #[.string T] rfl ?_ ?_
  · simp only [mkO, List.map_toArray, List.map_cons, List.map_nil]
    rw [ev_same (by omega)]
  refine (read_calls T hTs W2).mono ?_
  rintro e W3 ⟨c3, rfl, hcell3, hB3⟩
  refine ⟨_, rfl, ?_⟩
  refine Kd.event_run rfl (o_move _ _ _ _ _ _ (.tuple #[.slice (some ⟨W2.heap.size, 0, none⟩) T.size c3, .nilIface]) _ (by simp only [mkO]; rw [ev_same (by first | omega | (simp only [size_put]; omega))])) ?_
  refine Kd.event_run rfl (o_extract _ _ _ _ _ 0 _ #[.slice (some ⟨W2.heap.size, 0, none⟩) T.size c3, .nilIface] (.slice (some ⟨W2.heap.size, 0, none⟩) T.size c3) _ (by simp only [mkO]; rw [ev_same (by first | omega | (simp only [size_put]; omega))]) rfl) ?_
  refine Kd.event_run rfl (o_extract _ _ _ _ _ 1 _ #[.slice (some ⟨W2.heap.size, 0, none⟩) T.size c3, .nilIface] .nilIface _ (by simp only [mkO]; rw [ev_other (by omega)]; rw [ev_same (by first | omega | (simp only [size_put]; omega))]) rfl) ?_
  refine Kd.event_run rfl (o_assign _ _ _ _ _ _ (.slice (some ⟨W2.heap.size, 0, none⟩) T.size c3) _ (by simp only [mkO]; rw [ev_other (by omega)]; rw [ev_same (by first | omega | (simp only [size_put]; omega))])) ?_
  refine Kd.event_run rfl (o_assign _ _ _ _ _ _ .nilIface _ (by simp only [mkO]; rw [ev_other (by omega)]; rw [ev_same (by first | omega | (simp only [size_put]; omega))])) ?_
  refine wpList_nil ?_
  refine wp_seq (wp_seq (wp_region_lit ?_))
  unfold rg19_3
  refine Kd.event_run rfl (o_move _ _ _ _ _ _ .nilIface _ (by simp only [mkO]; rw [ev_same (by first | omega | (simp only [size_put]; omega))])) ?_
  refine Kd.event_run rfl (o_nonil _ _ _ _ _ _ (by simp only [mkO]; rw [ev_same (by first | omega | (simp only [size_put]; omega))])) ?_
  refine wpList_nil ?_
  refine wp_cond_false (by simp only [mkO]; rw [ev_same (by first | omega | (simp only [size_put]; omega))]) (wp_skip ?_)
  refine wp_seq (wp_region_lit ?_)
  unfold rg19_5
  refine Kd.event_run rfl (o_move _ _ _ _ _ _ (.slice (some ⟨W2.heap.size, 0, none⟩) T.size c3) _ (by simp only [mkO]; rw [ev_other (by omega), ev_other (by omega), ev_other (by omega)]; rw [ev_same (by first | omega | (simp only [size_put]; omega))])) ?_
  refine Kd.event_run rfl (o_conv60 _ _ _ _ _ W2.heap.size c3 T _ (by simp only [mkO]; rw [ev_same (by first | omega | (simp only [size_put]; omega))]) hcell3) ?_
  refine Kd.event_run rfl (o_move _ _ _ _ _ _ (.string T) _ (by simp only [mkO]; rw [ev_other (by omega), ev_other (by omega), ev_other (by omega), ev_other (by omega), ev_other (by omega), ev_other (by omega), ev_other (by omega), ev_other (by omega), ev_other (by omega), ev_other (by omega), ev_other (by omega)]; exact y4)) ?_
  refine goesL_ (some 26) rfl rfl Tryz.func37 (by kernel_rfl) (by kernel_rfl) #[.string T, .string T] rfl ?_ ?_
  · simp only [mkO, List.map_toArray, List.map_cons, List.map_nil]
    rw [ev_same (by simp only [size_put]; omega), ev_other (by omega), ev_same (by simp only [size_put]; omega)]
  have hBw3 := below_step hBw2 hB3
  have b13 := blk_below b12 hB3
  have b23 := blk_below b22 hB3
  have hs3 := hB3.size
  refine (HP W3 (vars_low hv hBw3 h11)).mono ?_
  rintro e W4 ⟨cs, rfl, hok, hB4⟩
  refine ⟨_, rfl, ?_⟩
  have hBw4 := below_step hBw3 hB4
  have b14 := blk_below b13 hB4
  have b24 := blk_below b23 hB4
  have hs4 := hB4.size
  clear b12 b22 hBw2 b13 b23 hBw3 hB3 hB4 hcell3
  refine Kd.event_run rfl (o_move _ _ _ _ _ _ (.tuple #[.agg cs, .nilIface]) _ (by simp only [mkO]; rw [ev_same (by first | omega | (simp only [size_put]; omega))])) ?_
  refine Kd.event_run rfl (o_extract _ _ _ _ _ 0 _ #[.agg cs, .nilIface] (.agg cs) _ (by simp only [mkO]; rw [ev_same (by first | omega | (simp only [size_put]; omega))]) rfl) ?_
  refine Kd.event_run rfl (o_extract _ _ _ _ _ 1 _ #[.agg cs, .nilIface] .nilIface _ (by simp only [mkO]; rw [ev_other (by omega)]; rw [ev_same (by first | omega | (simp only [size_put]; omega))]) rfl) ?_
  refine Kd.event_run rfl (o_allocZ _ _ _ _ _ _ _ zero58) ?_
  have hnew := blk_new W4 (.cells zs58 58 (0, 0))
  have hBa := below_alloc (Below.refl W4.heap.size W4) (.cells zs58 58 (0, 0))
  have hcsz : cs.size = 142 := hok.1
  have hone := cells_one hok
  refine event_skip rfl rfl (o_storeT _ _ _ _ _ _ 58 W4.heap.size zs58 cs _ (by simp only [mkO]; rw [ev_same (by first | omega | (simp only [size_put]; omega))]) (by simp only [mkO]; rw [ev_other (by omega), ev_other (by omega)]; rw [ev_same (by first | omega | (simp only [size_put]; omega))]) hnew (by rw [size58, hcsz]) (by rw [hcsz, zs58_size]) hone) ?_
  refine Kd.event_run rfl (o_assign _ _ _ _ _ _ .nilIface _ (by simp only [mkO]; rw [ev_other (by omega)]; rw [ev_same (by first | omega | (simp only [size_put]; omega))])) ?_
  refine wpList_nil ?_
  have hnew2 := setRow_heap _ W4.heap.size zs58 cs 58 (0, 0) hnew
  have hBs := below_setRow hBa (Nat.le_refl W4.heap.size) cs
  have b15 := blk_below b14 hBs
  have b25 := blk_below b24 hBs
  have hok5 := cells_step hok (W' := (W4.alloc (.cells zs58 58 (0, 0))).setRow W4.heap.size cs) (fun k _ hk => hBs.block k hk)
  have hBw5 := below_step hBw4 hBs
  have hs5 := hBs.size
  clear hnew hBa hBs b14 b24 hok hBw4
  generalize ((W4.alloc (.cells zs58 58 (0, 0))).setRow W4.heap.size cs) = W5 at *
  simp only [mkO]
  generalize hgb : ((((((((((((((((((a1.put (some 12) _).put (some 13) _).put (some 11) _).put (some 14) _).put (some 15) _).put (some 5) _).put (some 6) _).put (some 16) _).put (some 17) _).put (some 23) _).put (some 24) _).put (some 25) _).put (some 26) _).put (some 22) _).put (some 27) _).put (some 28) _).put (some 7) _).put (some 6) _) = a2
  have kz2 : a2.tmps.size = 34 := by rw [← hgb]; simp only [size_put]; exact kz
  have kd2 : a2.defers = [] := by rw [← hgb]; simp only [defers_put]; exact kd
  have x1 : a2.eval (.tmp 1) = .pointer (some ⟨w.heap.size, 0, none⟩) := by
    rw [← hgb]
    rw [ev_other (by omega), ev_other (by omega), ev_other (by omega), ev_other (by omega), ev_other (by omega), ev_other (by omega), ev_other (by omega), ev_other (by omega), ev_other (by omega), ev_other (by omega), ev_other (by omega), ev_other (by omega), ev_other (by omega), ev_other (by omega), ev_other (by omega), ev_other (by omega), ev_other (by omega), ev_other (by omega)]
    exact y1
  have x2 : a2.eval (.tmp 2) = .pointer (some ⟨w.heap.size + 1, 0, none⟩) := by
    rw [← hgb]
    rw [ev_other (by omega), ev_other (by omega), ev_other (by omega), ev_other (by omega), ev_other (by omega), ev_other (by omega), ev_other (by omega), ev_other (by omega), ev_other (by omega), ev_other (by omega), ev_other (by omega), ev_other (by omega), ev_other (by omega), ev_other (by omega), ev_other (by omega), ev_other (by omega), ev_other (by omega), ev_other (by omega)]
    exact y2
  have x7 : a2.eval (.tmp 7) = .pointer (some ⟨W4.heap.size, 0, none⟩) := by
    rw [← hgb, ev_other (by omega), ev_same (by simp only [size_put]; omega)]
  have x6 : a2.eval (.tmp 6) = .nilIface := by
    rw [← hgb, ev_same (by simp only [size_put]; omega)]
  clear hgb y1 y2 y4 kz kd a1
  obtain ⟨fs1, f1, u1, u2, u3, u4⟩ := pid64
  obtain ⟨fs2, f2, v1, v2, v3, v4⟩ := pid58
  refine wp_seq (wp_region_lit ?_)
  unfold rg19_6
  refine Kd.event_run rfl (o_addrO _ w.heap.size _ _ _ _ _ 0 0 64 _ x1 fs1 u1 f1 u2 u3 u4) ?_
  refine Kd.event_run rfl (o_load3 _ w.heap.size _ _ _ _ 0 (.int .i64 0) _ (by simp only [mkO]; rw [ev_same (by first | omega | (simp only [size_put]; omega))]) ((blk_cell b15 0).trans rfl)) ?_
  refine Kd.event_run rfl (o_addrO _ W4.heap.size _ _ _ _ _ 0 0 58 _ (by simp only [mkO]; rw [ev_other (by omega), ev_other (by omega)]; exact x7) fs2 v1 f2 v2 v3 v4) ?_
  refine event_skip rfl rfl (o_store3 _ W4.heap.size 0 _ _ _ _ 0 _ (by simp only [mkO]; rw [ev_same (by first | omega | (simp only [size_put]; omega))]) (by simp only [mkO]; rw [ev_other (by omega)]; rw [ev_same (by first | omega | (simp only [size_put]; omega))]) (.int .i64 0) ((blk_cell hnew2 0).trans hok5.2.1) (blk_frozen hnew2 0)) ?_
  refine wpList_nil ?_
  have hcs0 : cs.setIfInBounds 0 (.int .i64 0) = cs := by
    apply Array.ext_getElem?
    intro i
    rcases i with _ | i
    · rw [Array.getElem?_setIfInBounds_self_of_lt (by omega)]; exact hok5.2.1.symm
    · rw [Array.getElem?_setIfInBounds_ne (by omega)]
  have hnew6 := blk_put hnew2 0 (.int .i64 0) hcs0
  have hfar : ∀ k, k ≠ W4.heap.size → (W5.setCell ⟨W4.heap.size, 0, none⟩ (.int .i64 0)).heap[k]? = W5.heap[k]? := fun k hk => Below.heap_setCell _ _ _ _ hk
  have b26 := (hfar (w.heap.size + 1) (by omega)).trans b25
  have hBw6 : Below w.heap.size w (W5.setCell ⟨W4.heap.size, 0, none⟩ (.int .i64 0)) := by apply Below.setCell hBw5; show w.heap.size ≤ W4.heap.size; omega
  have hok6 : CellsOk (W5.setCell ⟨W4.heap.size, 0, none⟩ (.int .i64 0)) w.heap.size (Mof l) cs := by
    refine ⟨hok5.1, hok5.2.1, fun j hj => ?_⟩
    obtain ⟨v, hv, hp⟩ := hok5.2.2 j hj
    refine ⟨v, hv, ?_⟩
    rcases hp with hp | ⟨g, x, g1, g2, g3, g4⟩
    · exact .inl hp
    · refine .inr ⟨g, x, g1, g2, by omega, (hfar g ?_).trans g4⟩
      rintro rfl
      rw [hnew2] at g4
      have := congrArg (fun o : Option Obj => match o with | some (.cells c _ _) => c.size | _ => 0) g4
      simp [hcsz] at this
  clear hfar hok5 hBw5 b25 b15 hnew2
  generalize (W5.setCell ⟨W4.heap.size, 0, none⟩ (.int .i64 0)) = W6 at *
  refine wp_seq (wp_region_lit ?_)
  unfold rg19_7
  refine Kd.event_run rfl (o_loadR _ W4.heap.size 0 _ _ _ _ 58 cs.toList _ (by simp only [mkO]; rw [ev_other (by omega), ev_other (by omega), ev_other (by omega)]; exact x7) (fun j v hv => by rw [Nat.zero_add, blk_cell hnew6]; simpa using hv) _ Tryz.underlying58 rfl (by rw [size58]; simp [hcsz])) ?_
  refine Kd.event_run rfl (o_move _ _ _ _ _ _ .nilIface _ (by simp only [mkO]; rw [ev_other (by omega), ev_other (by omega), ev_other (by omega), ev_other (by omega)]; exact x6)) ?_
  refine event_skip rfl rfl (o_storeT _ _ _ _ _ _ 58 (w.heap.size + 1) zs58 cs _ (by simp only [mkO]; rw [ev_other (by omega), ev_other (by omega), ev_other (by omega), ev_other (by omega), ev_other (by omega)]; exact x2) (by simp only [mkO]; rw [ev_other (by omega), ev_same (by simp only [size_put]; omega)]) b26 (by rw [size58, hcsz]) (by rw [hcsz, zs58_size]) hone) ?_
  refine Kd.event_run rfl (o_assign _ _ _ _ _ _ .nilIface _ (by simp only [mkO]; rw [ev_same (by first | omega | (simp only [size_put]; omega))])) ?_
  refine wpList_nil ?_
  refine wp_ret ?_
  have hnew7 := setRow_heap W6 (w.heap.size + 1) zs58 cs 58 (0, 0) b26
  have hok7 : CellsOk (W6.setRow (w.heap.size + 1) cs) w.heap.size (Mof l) cs := by
    refine ⟨hok6.1, hok6.2.1, fun j hj => ?_⟩
    obtain ⟨v, hv, hp⟩ := hok6.2.2 j hj
    refine ⟨v, hv, ?_⟩
    rcases hp with hp | ⟨g, x, g1, g2, g3, g4⟩
    · exact .inl hp
    · refine .inr ⟨g, x, g1, g2, g3, (setRow_other W6 (w.heap.size + 1) g cs ?_).trans g4⟩
      rintro rfl
      rw [b26] at g4
      have := congrArg (fun o : Option Obj => match o with | some (.cells c _ _) => c.size | _ => 0) g4
      simp [zs58_size] at this
  have fin : ∀ act : Act, act.eval (.tmp 2) = .pointer (some ⟨w.heap.size + 1, 0, none⟩) → act.eval (.tmp 3) = .nilIface → act.defers = [] → bodyPost Tryz.prog Tryz.f19 (ParsedPost l w) .ret act (W6.setRow (w.heap.size + 1) cs) := by
    intro act q4 q5 qd
    have q4' : act.tmps.getD 2 undef = .pointer (some ⟨w.heap.size + 1, 0, none⟩) := by simpa [Act.eval] using q4
    have q5' : act.tmps.getD 3 undef = .nilIface := by simpa [Act.eval] using q5
    exact bodyPost_ret (results_c58 rfl _ _ (w.heap.size + 1) 58 cs (0, 0) .nilIface q4' q5' hnew7 (by rw [size58, hcsz])) qd ⟨cs, rfl, hok7, below_setRow hBw6 (by omega) cs⟩
  refine fin _ ?_ ?_ ?_
  · simp only [mkO]; rw [ev_other (by omega), ev_other (by omega), ev_other (by omega), ev_other (by omega), ev_other (by omega), ev_other (by omega)]
    exact x2
  · simp only [mkO]; rw [ev_same (by simp only [size_put]; omega)]
  · simp only [mkO, defers_put]; exact kd2
end Go.Proofs.YtabfglmpnkgecaaGreatDoor.X

/- The door Netstat's tree. -/
namespace Go.Proofs.YtabfglmpnkgecaaGreatDoor.X
open Go.RowKit Go.Proofs.YtabfglmpnkgecaaGreatDoorW.PrintWords Go.Proofs.YtabfglmpnkgecaaGreatDoorW.PrintLast Go.Proofs.YtabfglmpnkgecaaGreatDoorW.PrintMore Go.Proofs.YtabfglmpnkgecaaGreatDoor.Q
attribute [local go_sem] run_store_float

theorem catch33_idle (p q : Value) (w : World) :
    CallsD Tryz.prog 33 #[p, q] .returning w fun e u' w' => e = .returned (.tuple #[]) ∧ u' = .returning ∧ w' = w := by
  refine callsD_of_wpS Tryz.func33 rfl fun c₀ cs hu => ?_
  apply wpS_seq
  apply wpS_region
  simp [wpOpsS, go_sem, recoverD, hu, Tryz.ntmps33, Exit.thenS]
  refine wpS_cond (t := false) (by simp [Act.eval, Array.replicate]) ?_
  simp only [Bool.false_eq_true, if_false]
  refine wpS_of_wp (wp_skip ?_)
  cases c₀
  simp_all [bodyPostS, results, Tryz.results33]
set_option maxHeartbeats 4000000 in
set_option maxRecDepth 100000 in
theorem tree17_calls (l : List S31) (xs : List S43) (av : Value) (w : World)
    (h20 : ∀ W : World, Below w.heap.size w W → Calls Tryz.prog 19 #[av] W (ParsedPost l W)) (h23 : ∀ (W : World) (B : Nat) (cs : Array Value), CellsOk W B (Mof l) cs → Calls Tryz.prog 20 #[.agg cs] W (RecPost W ⟨#[]⟩ xs)) :
    Calls Tryz.prog 17 #[.func (.func 19) #[av] #[], .func (.func 20) #[] #[]] w fun e w' => ∃ A c, e = .returned (.tuple #[.agg #[.string ⟨#[]⟩, .int .i64 8, .bool false, .int .i64 0, .int .u64 0, .float .f64 0, .string ⟨#[]⟩, .slice A xs.length c], .int .i64 0]) ∧ xs.length ≤ c ∧ Kd.F k43 w' (fun k => w.heap.size + 2 ≤ k) A xs.length xs ∧ Below w.heap.size w w' := by
  have hu43 := Tryz.underlying43
  have hmf : ∀ (fn : Fn) (first cap : Array Value) (w : World), (Instr.makeFunc fn first cap).run Tryz.prog w = .ok (.func fn first cap) w := fun _ _ _ _ => rfl
  have H20 := Aside0.mk h20
  have H23 := Aside0.mk h23
  clear h20 h23
  go_enter_defers Tryz.func17, Tryz.ntmps17
  go_wp2_with fail
  have hZ := blk_alloc (blk_new w (.cells #[.string ⟨#[]⟩, .int .i64 0, .bool false, .int .i64 0, .int .u64 0, .float .f64 0, .string ⟨#[]⟩, .slice none 0 0] 43 (0, 0))) (.cells #[.int .i64 0] 3 (0, 0))
  have hO := blk_new (w.alloc (.cells #[.string ⟨#[]⟩, .int .i64 0, .bool false, .int .i64 0, .int .u64 0, .float .f64 0, .string ⟨#[]⟩, .slice none 0 0] 43 (0, 0))) (.cells #[.int .i64 0] 3 (0, 0))
  have hB := below_alloc (below_alloc (Below.refl w.heap.size w) (.cells #[.string ⟨#[]⟩, .int .i64 0, .bool false, .int .i64 0, .int .u64 0, .float .f64 0, .string ⟨#[]⟩, .slice none 0 0] 43 (0, 0))) (.cells #[.int .i64 0] 3 (0, 0))
  have hs1 := World.size_alloc w (.cells #[.string ⟨#[]⟩, .int .i64 0, .bool false, .int .i64 0, .int .u64 0, .float .f64 0, .string ⟨#[]⟩, .slice none 0 0] 43 (0, 0))
  have hs2 := World.size_alloc (w.alloc (.cells #[.string ⟨#[]⟩, .int .i64 0, .bool false, .int .i64 0, .int .u64 0, .float .f64 0, .string ⟨#[]⟩, .slice none 0 0] 43 (0, 0))) (.cells #[.int .i64 0] 3 (0, 0))
  rw [hs1] at hO
  have HS : Aside0 (((w.alloc (.cells #[.string ⟨#[]⟩, .int .i64 0, .bool false, .int .i64 0, .int .u64 0, .float .f64 0, .string ⟨#[]⟩, .slice none 0 0] 43 (0, 0))).alloc (.cells #[.int .i64 0] 3 (0, 0))).heap.size = w.heap.size + 2) := ⟨by omega⟩
  clear hs1 hs2
  generalize ((w.alloc (.cells #[.string ⟨#[]⟩, .int .i64 0, .bool false, .int .i64 0, .int .u64 0, .float .f64 0, .string ⟨#[]⟩, .slice none 0 0] 43 (0, 0))).alloc (.cells #[.int .i64 0] 3 (0, 0))) = W0 at *
  have HK : Aside0 (W0.heap[w.heap.size]? = some (.cells #[.string ⟨#[]⟩, .int .i64 0, .bool false, .int .i64 0, .int .u64 0, .float .f64 0, .string ⟨#[]⟩, .slice none 0 0] 43 (0, 0)) ∧ W0.heap[w.heap.size + 1]? = some (.cells #[.int .i64 0] 3 (0, 0)) ∧ Below w.heap.size w W0) := ⟨hZ, hO, hB⟩
  clear hZ hO hB
  refine (H20.out W0 HK.out.2.2).mono ?_
  rintro e w1 ⟨cs, rfl, h1, h2⟩
  have HK1 : Aside0 (w1.heap[w.heap.size]? = some (.cells #[.string ⟨#[]⟩, .int .i64 0, .bool false, .int .i64 0, .int .u64 0, .float .f64 0, .string ⟨#[]⟩, .slice none 0 0] 43 (0, 0)) ∧ w1.heap[w.heap.size + 1]? = some (.cells #[.int .i64 0] 3 (0, 0)) ∧ Below w.heap.size w w1 ∧ w.heap.size + 2 ≤ w1.heap.size) := ⟨blk_below HK.out.1 h2, blk_below HK.out.2.1 h2, below_step HK.out.2.2 h2, by have := h2.size; have := HS.out; omega⟩
  have HP := Aside0.mk h1
  clear h1 h2 HK HS
  have hcsz : cs.size = 142 := HP.out.1
  have hone := Aside0.mk (cells_one HP.out)
  go_wp2_with (first
    | ((with_reducible refine gate_dst (N := 6) rfl ?_); refine Kd.event_run rfl (o_allocZ _ _ _ _ 58 zs58 _ zero58) ?_)
    | ((with_reducible refine gate_store (t := 58) (p := 6) rfl ?_); refine event_skip rfl rfl (o_storeT _ _ _ _ _ 58 58 w1.heap.size zs58 cs _ rfl rfl (blk_new w1 _) (by rw [size58, hcsz]) (by rw [hcsz, zs58_size]) hone.out) ?_; have hnew2 := setRow_heap _ w1.heap.size zs58 cs 58 (0, 0) (blk_new w1 (.cells zs58 58 (0, 0))); have hBs := below_setRow (below_alloc (Below.refl w1.heap.size w1) (.cells zs58 58 (0, 0))) (Nat.le_refl w1.heap.size) cs; have HQ : Aside0 (w1.heap.size = w1.heap.size ∧ Below w1.heap.size w1 ((w1.alloc (.cells zs58 58 (0, 0))).setRow w1.heap.size cs) ∧ CellsOk ((w1.alloc (.cells zs58 58 (0, 0))).setRow w1.heap.size cs) W0.heap.size (Mof l) cs ∧ ((w1.alloc (.cells zs58 58 (0, 0))).setRow w1.heap.size cs).heap[w1.heap.size]? = some (.cells cs 58 (0, 0))) := ⟨rfl, hBs, cells_step HP.out (fun k _ hk => hBs.block k hk), hnew2⟩; clear hnew2 hBs; generalize ((w1.alloc (.cells zs58 58 (0, 0))).setRow w1.heap.size cs) = w5 at *)
    | ((with_reducible refine gate_dst (N := 18) rfl ?_); refine Kd.event_run rfl (o_loadR _ w1.heap.size 0 _ _ _ _ 58 cs.toList _ rfl (fun j v hv => by rw [Nat.zero_add, blk_cell HQ.out.2.2.2]; simpa using hv) _ Tryz.underlying58 rfl (by rw [size58]; simp [hcsz])) ?_))
  refine (H23.out w5 _ cs HQ.out.2.2.1).mono ?_
  rintro e w2 ⟨A, c, rfl, hl, hF, hB5⟩
  have hB := below_low HQ.out.2.1 hB5 HQ.out.2.1.size
  replace hF := Kd.F_mono hF (ok' := fun k => w1.heap.size ≤ k) (fun k hk => Nat.le_trans HQ.out.2.1.size hk)
  clear hB5
  have HK2 : Aside0 (w2.heap[w.heap.size]? = some (.cells #[.string ⟨#[]⟩, .int .i64 0, .bool false, .int .i64 0, .int .u64 0, .float .f64 0, .string ⟨#[]⟩, .slice none 0 0] 43 (0, 0)) ∧ w2.heap[w.heap.size + 1]? = some (.cells #[.int .i64 0] 3 (0, 0)) ∧ Below w.heap.size w w2 ∧ w.heap.size + 2 ≤ w1.heap.size) := ⟨blk_below HK1.out.1 hB, blk_below HK1.out.2.1 hB, below_step HK1.out.2.2.1 hB, HK1.out.2.2.2⟩
  have HF : Aside0 (xs.length ≤ c ∧ Kd.F k43 w2 (fun k => w.heap.size + 2 ≤ k) A xs.length xs) := ⟨hl, Kd.F_mono hF (fun k hk => by have := HK1.out.2.2.2; omega)⟩
  clear hl hF hB HP HK1
  have z0 : ∀ j, w2.cell? ⟨w.heap.size, j, none⟩ = (#[.string ⟨#[]⟩, .int .i64 0, .bool false, .int .i64 0, .int .u64 0, .float .f64 0, .string ⟨#[]⟩, .slice none 0 0] : Array Value)[j]? := fun j => (blk_cell HK2.out.1 j)
  have f0 : ∀ j, w2.frozen? ⟨w.heap.size, j, none⟩ = false := fun j => blk_frozen HK2.out.1 j
  have z1 : ∀ j, w2.cell? ⟨w.heap.size + 1, j, none⟩ = (#[.int .i64 0] : Array Value)[j]? := fun j => (blk_cell HK2.out.2.1 j)
  have f1 : ∀ j, w2.frozen? ⟨w.heap.size + 1, j, none⟩ = false := fun j => blk_frozen HK2.out.2.1 j
  go_wp2_with fail
  refine leaves_cons (f := 33) (args := #[.pointer (some ⟨w.heap.size, 0, none⟩), .pointer (some ⟨w.heap.size + 1, 0, none⟩)]) (by simp) (by simp [go_sem]) ?_
  refine (catch33_idle _ _ _).mono ?_
  rintro e u' w'' ⟨rfl, rfl, rfl⟩
  have hput := put8 HK2.out.1 (.string ⟨#[]⟩) (.int .i64 8) (.bool false) (.int .i64 0) (.int .u64 0) (.float .f64 0) (.string ⟨#[]⟩) (.slice A xs.length c)
  have hone := (far8 (show w.heap.size + 1 ≠ w.heap.size by omega) (.string ⟨#[]⟩) (.int .i64 8) (.bool false) (.int .i64 0) (.int .u64 0) (.float .f64 0) (.string ⟨#[]⟩) (.slice A xs.length c)).trans HK2.out.2.1
  have hbel := below_put8 HK2.out.2.2.1 (Nat.le_refl _) (.string ⟨#[]⟩) (.int .i64 8) (.bool false) (.int .i64 0) (.int .u64 0) (.float .f64 0) (.string ⟨#[]⟩) (.slice A xs.length c)
  have hF8 : Kd.F k43 ((((((((w2.setCell ⟨w.heap.size, 0, none⟩ (.string ⟨#[]⟩)).setCell ⟨w.heap.size, 1, none⟩ (.int .i64 8)).setCell ⟨w.heap.size, 2, none⟩ (.bool false)).setCell ⟨w.heap.size, 3, none⟩ (.int .i64 0)).setCell ⟨w.heap.size, 4, none⟩ (.int .u64 0)).setCell ⟨w.heap.size, 5, none⟩ (.float .f64 0)).setCell ⟨w.heap.size, 6, none⟩ (.string ⟨#[]⟩)).setCell ⟨w.heap.size, 7, none⟩ (.slice A xs.length c)) (fun k => w.heap.size + 2 ≤ k) A xs.length xs := by
    refine F_setCell (F_setCell (F_setCell (F_setCell (F_setCell (F_setCell (F_setCell (F_setCell HF.out.2 _ _ ?_) _ _ ?_) _ _ ?_) _ _ ?_) _ _ ?_) _ _ ?_) _ _ ?_) _ _ ?_ <;> exact fun k hk => by show k ≠ w.heap.size; omega
  clear z0 z1 f0 f1
  generalize ((((((((w2.setCell ⟨w.heap.size, 0, none⟩ (.string ⟨#[]⟩)).setCell ⟨w.heap.size, 1, none⟩ (.int .i64 8)).setCell ⟨w.heap.size, 2, none⟩ (.bool false)).setCell ⟨w.heap.size, 3, none⟩ (.int .i64 0)).setCell ⟨w.heap.size, 4, none⟩ (.int .u64 0)).setCell ⟨w.heap.size, 5, none⟩ (.float .f64 0)).setCell ⟨w.heap.size, 6, none⟩ (.string ⟨#[]⟩)).setCell ⟨w.heap.size, 7, none⟩ (.slice A xs.length c)) = w3 at *
  refine ⟨_, results_cs rfl _ _ w.heap.size (w.heap.size + 1) 43 _ (0, 0) (.int .i64 0) rfl rfl ((Below.heap_setCell _ _ _ _ (by show w.heap.size ≠ w.heap.size + 1; omega)).trans hput) (by kernel_rfl) ((blk_cell (blk_put hone 0 (.int .i64 0) rfl) 0).trans rfl), A, c, rfl, HF.out.1, F_setCell hF8 _ _ (fun k hk => by show k ≠ w.heap.size + 1; omega), ?_⟩
  exact below_low hbel (by apply Below.setCell (Below.refl w.heap.size w3); show w.heap.size ≤ w.heap.size + 1; omega) (Nat.le_refl _)
end Go.Proofs.YtabfglmpnkgecaaGreatDoor.X

/- The door Netstat at a text that was written from rows. -/
namespace Go.Proofs.YtabfglmpnkgecaaGreatDoor.X
open Go.RowKit Go.Proofs.YtabfglmpnkgecaaGreatDoorW.PrintWords Go.Proofs.YtabfglmpnkgecaaGreatDoorW.PrintLast Go.Proofs.YtabfglmpnkgecaaGreatDoorW.PrintMore Go.Proofs.YtabfglmpnkgecaaGreatDoor.Q
attribute [local go_sem] run_store_float

theorem textProc_calls (T : ByteArray) (w : World) : Calls Tryz.prog 18 #[.string T] w fun e w' => e = .returned (.agg #[.int .i64 0, .string T]) ∧ Below w.heap.size w w' := by
  have hu := Tryz.underlying64
  have hu2 := Tryz.underlying62
  go_enter Tryz.func18, Tryz.ntmps18
  go_wp2_with fail
  have hb1 := blk_new w (.cells #[.int .i64 0, .string ⟨#[]⟩] 64 (0, 0))
  have hB1 := below_alloc (Below.refl w.heap.size w) (.cells #[.int .i64 0, .string ⟨#[]⟩] 64 (0, 0))
  generalize (w.alloc (.cells #[.int .i64 0, .string ⟨#[]⟩] 64 (0, 0))) = w1 at *
  refine (textFS_calls T w1).mono ?_
  rintro e w2 ⟨rfl, hB2⟩
  have HB : Aside0 (w2.heap[w.heap.size]? = some (.cells #[.int .i64 0, .string ⟨#[]⟩] 64 (0, 0)) ∧ Below w.heap.size w w2) := ⟨blk_below hb1 hB2, below_step hB1 hB2⟩
  clear hb1 hB1 hB2
  have z0 : ∀ j, w2.cell? ⟨w.heap.size, j, none⟩ = (#[.int .i64 0, .string ⟨#[]⟩] : Array Value)[j]? := fun j => (blk_cell HB.out.1 j)
  have f0 : ∀ j, w2.frozen? ⟨w.heap.size, j, none⟩ = false := fun j => blk_frozen HB.out.1 j
  go_wp2_with fail
  have hput := blk_put (blk_put HB.out.1 0 (.int .i64 0) rfl) 1 (.string T) (cs' := #[.int .i64 0, .string T]) rfl
  exact bodyPost_ret (results_cell_row rfl _ _ w.heap.size 64 #[.int .i64 0, .string T] (0, 0) _ rfl hput hu rfl (by kernel_rfl)) rfl ⟨rfl, by apply Below.setCell (by apply Below.setCell HB.out.2; exact Nat.le_refl _); exact Nat.le_refl _⟩
set_option maxHeartbeats 4000000 in
set_option maxRecDepth 100000 in
theorem netstat_calls (l : List S31) (hf : FineRows l) (w : World) (hv : VarsW w) :
    Calls Tryz.prog 8 #[.string ⟨(textL l).toArray⟩] w (fun e w' => ∃ A c, e = .returned (.tuple #[.agg #[.string ⟨#[]⟩, .int .i64 8, .bool false, .int .i64 0, .int .u64 0, .float .f64 0, .string ⟨#[]⟩, .slice A (netKids (Mof l)).length c], .int .i64 0]) ∧ (netKids (Mof l)).length ≤ c ∧ Kd.F k43 w' (fun k => w.heap.size ≤ k) A (netKids (Mof l)).length (netKids (Mof l)) ∧ Below w.heap.size w w') := by
  have h11 : 11 < w.heap.size := World.block_lt_of_cell? w _ hv.2.2.1
  have hu43 := Tryz.underlying43
  have hmf : ∀ (fn : Fn) (first cap : Array Value) (w : World), (Instr.makeFunc fn first cap).run Tryz.prog w = .ok (.func fn first cap) w := fun _ _ _ _ => rfl
  have H113 : Aside0 (∀ (w1 : World), Below w.heap.size w w1 → ∀ W : World, Below w1.heap.size w1 W → Calls Tryz.prog 19 #[.agg #[.int .i64 0, .string ⟨(textL l).toArray⟩]] W (ParsedPost l W)) :=
    ⟨fun w1 h2 W hB => proc_calls l hf W (vars_low hv (below_step h2 hB) h11)⟩
  have H114 : Aside0 (∀ (W : World) (B : Nat) (cs : Array Value), CellsOk W B (Mof l) cs → Calls Tryz.prog 20 #[.agg cs] W (RecPost W ⟨#[]⟩ (netKids (Mof l)))) :=
    ⟨fun W B cs hb => net20_calls cs (Mof l) B W hb⟩
  clear hf hv h11
  generalize (⟨(textL l).toArray⟩ : ByteArray) = T at *
  generalize hxs : netKids (Mof l) = xs at *
  go_enter Tryz.func8, Tryz.ntmps8
  go_wp2_with fail
  have hZ := blk_new w (.cells #[.string ⟨#[]⟩, .int .i64 0, .bool false, .int .i64 0, .int .u64 0, .float .f64 0, .string ⟨#[]⟩, .slice none 0 0] 43 (0, 0))
  have hB := below_alloc (Below.refl w.heap.size w) (.cells #[.string ⟨#[]⟩, .int .i64 0, .bool false, .int .i64 0, .int .u64 0, .float .f64 0, .string ⟨#[]⟩, .slice none 0 0] 43 (0, 0))
  have hs1 := World.size_alloc w (.cells #[.string ⟨#[]⟩, .int .i64 0, .bool false, .int .i64 0, .int .u64 0, .float .f64 0, .string ⟨#[]⟩, .slice none 0 0] 43 (0, 0))
  generalize (w.alloc (.cells #[.string ⟨#[]⟩, .int .i64 0, .bool false, .int .i64 0, .int .u64 0, .float .f64 0, .string ⟨#[]⟩, .slice none 0 0] 43 (0, 0))) = w0 at *
  refine (textProc_calls T w0).mono ?_
  rintro e w1 ⟨rfl, hB1⟩
  have HZ1 : Aside0 (w1.heap[w.heap.size]? = some (.cells #[.string ⟨#[]⟩, .int .i64 0, .bool false, .int .i64 0, .int .u64 0, .float .f64 0, .string ⟨#[]⟩, .slice none 0 0] 43 (0, 0)) ∧ Below w.heap.size w w1 ∧ w.heap.size + 1 ≤ w1.heap.size) := ⟨blk_below hZ hB1, below_step hB hB1, by have := hB1.size; omega⟩
  clear hZ hB hs1 hB1
  go_wp2_with fail
  refine (tree17_calls l xs (.agg #[.int .i64 0, .string T]) w1 (H113.out w1 HZ1.out.2.1) H114.out).mono ?_
  rintro e w2 ⟨A, c, rfl, hlc, hF, hB2⟩
  have HZ : Aside0 (w2.heap[w.heap.size]? = some (.cells #[.string ⟨#[]⟩, .int .i64 0, .bool false, .int .i64 0, .int .u64 0, .float .f64 0, .string ⟨#[]⟩, .slice none 0 0] 43 (0, 0)) ∧ Below w.heap.size w w2) := ⟨blk_below HZ1.out.1 hB2, below_step HZ1.out.2.1 hB2⟩
  have HF : Aside0 (xs.length ≤ c ∧ Kd.F k43 w2 (fun k => w.heap.size + 1 ≤ k) A xs.length xs) := ⟨hlc, Kd.F_mono hF (fun k hk => by have := HZ1.out.2.2; omega)⟩
  clear hB2 hF hlc HZ1 H113 H114
  have z0 : ∀ j, w2.cell? ⟨w.heap.size, j, none⟩ = (#[.string ⟨#[]⟩, .int .i64 0, .bool false, .int .i64 0, .int .u64 0, .float .f64 0, .string ⟨#[]⟩, .slice none 0 0] : Array Value)[j]? := fun j => (blk_cell HZ.out.1 j)
  have f0 : ∀ j, w2.frozen? ⟨w.heap.size, j, none⟩ = false := fun j => blk_frozen HZ.out.1 j
  go_wp2_with fail
  refine bodyPost_ret (YtabfglmpnkgecaaGreatDoorW.PrintWords.results_ct rfl _ _ w.heap.size 43 _ (0, 0) _ rfl (put8 HZ.out.1 _ _ _ _ _ _ _ _) hu43 rfl (by kernel_rfl)) rfl ?_
  refine ⟨A, c, rfl, HF.out.1, Kd.F_mono (ok := fun k => w.heap.size + 1 ≤ k) ?_ (fun k hk => ?_), below_put8 HZ.out.2 (Nat.le_refl _) _ _ _ _ _ _ _ _⟩
  · refine F_setCell (F_setCell (F_setCell (F_setCell (F_setCell (F_setCell (F_setCell (F_setCell HF.out.2 _ _ ?_) _ _ ?_) _ _ ?_) _ _ ?_) _ _ ?_) _ _ ?_) _ _ ?_) _ _ ?_ <;> exact fun k hk => by show k ≠ w.heap.size; omega
  · omega
end Go.Proofs.YtabfglmpnkgecaaGreatDoor.X
