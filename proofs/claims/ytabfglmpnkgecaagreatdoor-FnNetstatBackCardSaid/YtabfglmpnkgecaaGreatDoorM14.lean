/- The nodes of addresses of numbers: the closures and pointer[float64], by law. (Written by a program of this claim.) -/
import Derived.Test.YtabfglmpnkgecaaGreatDoorM02
import Derived.Test.YtabfglmpnkgecaaGreatDoorM13
set_option linter.unusedVariables false
set_option linter.unusedSimpArgs false
namespace Go.Proofs.YtabfglmpnkgecaaGreatDoor.X
open Go.RowKit Go.Proofs.YtabfglmpnkgecaaGreatDoorW.PrintWords Go.Proofs.YtabfglmpnkgecaaGreatDoorW.PrintLast Go.Proofs.YtabfglmpnkgecaaGreatDoorW.PrintMore Go.Proofs.YtabfglmpnkgecaaGreatDoor.Q
attribute [local go_sem] run_store_float

section
variable {P : Program} {ops : Array Oper} {Q : Exit → Act → World → Prop}
/-- A call of a function's value that lies in a slot. -/
theorem goesV_ {rest : List Oper} {oi : Oper} {a : Act} {w : World} (N : Option Tmp) (hd : oi.dst = N) (hg : oi.guard = none) {f : FuncId} {fn : Func} {t : Tmp} {xs : Array Operand} {ts : Array TypeId} (hf : P.funcs[f]? = some fn) (hname : (fn.name == "runtime.NumGoroutine") = false) (hb : fn.body.isSome = true) (args : Array Value)
    (hop : oi.op = .call { callee := .value (.tmp t), args := xs, argTypes := ts }) (ht : a.eval (.tmp t) = .func (.func f) #[] #[]) (hargs : xs.map a.eval = args)
    (h : Calls P f args w fun e w' => ∃ v, e = .returned v ∧ wpList P ops Q rest (a.put N v) w') : wpList P ops Q (oi :: rest) a w := by
  refine wpList_plain hg fun K hK => ?_
  have he := enters_ hf hname hb args w
  have hrun : (execOp a.eval oi).run P w = .ok (.enter f args) w := by
    unfold execOp
    simp [hop, ht, resolve, Deferred.ofValue, invoke, hargs, he]
  unfold Oper.wp
  rw [hrun, Oper.upon_enter]
  refine h.mono fun e w'' hh => ?_
  obtain ⟨v, rfl, hk⟩ := hh
  subst hd
  exact hK _ _ hk
end
theorem o_build45 (a : Act) (W : World) (pos : String) (s t u : Nat) (name : ByteArray) (n : Nat) (af : List Edge) (h : a.eval (.tmp t) = .string name) (h2 : a.eval (.tmp u) = .float .f64 n) :
  (execOp a.eval (mkO pos (some s) (.build 43 #[(0, .tmp t), (1, .const (.int .i64 4)), (5, .tmp u)]) 43 af)).run Tryz.prog W = .ok (.value (.agg (cellsM (floatM name n) none 0))) W := by
  have hu := Tryz.underlying43
  have h' : a.tmps[t]?.getD undef = .string name := by rw [← h]; simp [Act.eval]
  have h2' : a.tmps[u]?.getD undef = .float .f64 n := by rw [← h2]; simp [Act.eval]
  simp only [execOp, mkO, cellsM, floatM, List.length_nil]
  go_simp
/-- A field without a number. -/
def nilM (name : ByteArray) : S43 := ⟨name, 0, false, 0, 0, (0 : Nat), ⟨#[]⟩, []⟩
theorem o_build0 (a : Act) (W : World) (pos : String) (s t : Nat) (name : ByteArray) (af : List Edge) (h : a.eval (.tmp t) = .string name) :
  (execOp a.eval (mkO pos (some s) (.build 43 #[(0, .tmp t)]) 43 af)).run Tryz.prog W = .ok (.value (.agg (cellsM (nilM name) none 0))) W := by
  have hu := Tryz.underlying43
  have h' : a.tmps[t]?.getD undef = .string name := by rw [← h]; simp [Act.eval]
  simp only [execOp, mkO, cellsM, nilM, List.length_nil]
  go_simp
theorem o_isnil (a : Act) (W : World) (pos : String) (s t : Nat) (p : Option Addr) (af : List Edge) (h : a.eval (.tmp t) = .pointer p) :
  (execOp a.eval (mkO pos (some s) (.binOp .eql 52 (.tmp t) (.const (.pointer none)) 52) 4 af)).run Tryz.prog W = .ok (.value (.bool p.isNone)) W := by
  have hu := Tryz.underlying52
  have h' : a.tmps[t]?.getD undef = .pointer p := by rw [← h]; simp [Act.eval]
  cases p
  · simp only [execOp, mkO]
    go_simp
    try rfl
  · simp only [execOp, mkO]
    go_simp
    try rfl
theorem o_nilcheck (a : Act) (W : World) (pos : String) (s t : Nat) (p : Addr) (af : List Edge) (h : a.eval (.tmp t) = .pointer (some p)) :
  (execOp a.eval (mkO pos (some s) (.nilCheck (.tmp t)) 0 af)).run Tryz.prog W = .ok (.value (.pointer (some p))) W := by
  have h' : a.tmps[t]?.getD undef = .pointer (some p) := by rw [← h]; simp [Act.eval]
  simp only [execOp, mkO]
  go_simp
/-- A node is stored and handed back. -/
theorem store_ret {fn : Func} {p t : Nat} {pos : String} {af : List Edge} {ops : Array Oper} (hres : fn.results = #[.cell p 43]) (w W : World) (x : S43) (A : Option Addr) (c : Nat) (a : Act) (b : Nat) (z0 z1 z2 z3 z4 z5 z6 z7 : Value)
    (hp : a.eval (.tmp p) = .pointer (some ⟨b, 0, none⟩)) (ht : a.eval (.tmp t) = .agg (cellsM x A c)) (hb : W.heap[b]? = some (.cells #[z0, z1, z2, z3, z4, z5, z6, z7] 43 (0, 0))) (hwb : w.heap.size ≤ b) (hl : x.f7.length ≤ c)
    (hF : Kd.F k43 W (fun k => w.heap.size ≤ k ∧ k ≠ b) A x.f7.length x.f7) (hB : Below w.heap.size w W) (hd : a.defers = []) {Q Q' : Exit → Act → World → Prop} (hQ : ∀ act W, bodyPost Tryz.prog fn (ElPost w x) .ret act W → Q .ret act W) :
    wpList Tryz.prog ops (Exit.then (Code.ret.wp Tryz.prog Q) Q') [mkO pos none (.store 43 (.tmp p) (.tmp t)) 0 af] a W := by
  refine event_skip rfl rfl (o_store43 _ b _ _ _ _ x.f0 x.f6 x.f1 x.f3 x.f4 x.f2 x.f5 A x.f7.length c _ _ _ _ _ _ _ _ _ hp ht hb) ?_
  refine wpList_nil ?_
  refine wp_ret ?_
  refine hQ _ _ ?_
  refine bodyPost_ret (results_cell_row hres _ _ b 43 _ (0, 0) _ ?_ (put8 hb _ _ _ _ _ _ _ _) Tryz.underlying43 rfl (by kernel_rfl)) hd ?_
  · rw [show ∀ (b : Act), b.tmps.getD p undef = b.eval (.tmp p) from fun _ => rfl]
    exact hp
  · refine ⟨A, c, rfl, hl, ?_, below_put8 hB hwb _ _ _ _ _ _ _ _⟩
    have hG := F_setCell (F_setCell (F_setCell (F_setCell (F_setCell (F_setCell (F_setCell (F_setCell hF ⟨b, 0, none⟩ (.string x.f0) (fun k hk => hk.2)) ⟨b, 1, none⟩ (.int .i64 x.f1) (fun k hk => hk.2)) ⟨b, 2, none⟩ (.bool x.f2) (fun k hk => hk.2)) ⟨b, 3, none⟩ (.int .i64 x.f3) (fun k hk => hk.2)) ⟨b, 4, none⟩ (.int .u64 x.f4) (fun k hk => hk.2)) ⟨b, 5, none⟩ (.float .f64 x.f5) (fun k hk => hk.2)) ⟨b, 6, none⟩ (.string x.f6) (fun k hk => hk.2)) ⟨b, 7, none⟩ (.slice A x.f7.length c) (fun k hk => hk.2)
    exact Kd.F_mono hG (fun k hk => hk.1)
/-- A field: its number, or none. -/
def kidM (nm : ByteArray) (m : Option Nat) : S43 := match m with | some x => floatM nm x | none => nilM nm
def closCode (p : String) : Code :=
  .seq (.region 0 [mkO p (some 4) (.alloc 43) 0 []].toArray false) (.seq (.region 1 [mkO p (some 5) (.move (.tmp 0)) 9 [], mkO p (some 6) (.move (.tmp 1)) 36 [], mkO p (some 7) (.build 43 #[(0, .tmp 5), (1, .const (.int .i64 4)), (5, .tmp 6)]) 43 [⟨0, .data⟩, ⟨1, .data⟩], mkO p none (.store 43 (.tmp 4) (.tmp 7)) 0 [⟨2, .data⟩, ⟨0, .phase⟩, ⟨1, .phase⟩, ⟨2, .phase⟩]].toArray false) .ret)
/-- Function F is a closure that makes a node of a number. -/
def ClosOk (F : Nat) : Prop := ∃ fn p, Tryz.prog.funcs[F]? = some fn ∧ fn.body = some (closCode p) ∧ fn.results = #[.cell 4 43] ∧ fn.ntmps = 8 ∧ (fn.name == "runtime.NumGoroutine") = false
set_option maxRecDepth 100000 in
set_option maxHeartbeats 1000000 in
theorem clos_calls (F : Nat) (hF : ClosOk F) (nm : ByteArray) (x : Nat) (w : World) : Calls Tryz.prog F #[.string nm, .float .f64 x] w (ElPost w (floatM nm x)) := by
  obtain ⟨fn, p, h1, h2, h3, h4, _⟩ := hF
  refine calls_of_wp h1 h2 ?_
  obtain ⟨a, ha⟩ : ∃ a : Act, a = { tmps := #[.string nm, .float .f64 x] ++ Array.replicate (fn.ntmps - (#[.string nm, .float .f64 x] : Array Value).size) undef, defers := [] } := ⟨_, rfl⟩
  rw [← ha]
  have e0 : a.eval (.tmp 0) = .string nm := by rw [ha]; simp only [Act.eval, Array.getD_eq_getD_getElem?]; rw [Array.getElem?_append_left (by simp)]; rfl
  have e1 : a.eval (.tmp 1) = .float .f64 x := by rw [ha]; simp only [Act.eval, Array.getD_eq_getD_getElem?]; rw [Array.getElem?_append_left (by simp)]; rfl
  have hd : a.defers = [] := by rw [ha]
  have hsz : a.tmps.size = 8 := by rw [ha]; simp [h4]
  clear ha
  unfold closCode
  refine wp_seq (wp_region_lit ?_)
  refine Kd.event_run rfl (o_alloc43 _ _ _ _ _) ?_
  refine wpList_nil ?_
  refine wp_seq (wp_region_lit ?_)
  refine Kd.event_run rfl (o_move _ _ _ _ _ _ (.string nm) _ (by simp only [mkO]; rw [ev_other (by omega)]; exact e0)) ?_
  refine Kd.event_run rfl (o_move _ _ _ _ _ _ (.float .f64 x) _ (by simp only [mkO]; rw [ev_other (by omega), ev_other (by omega)]; exact e1)) ?_
  refine Kd.event_run rfl (o_build45 _ _ _ _ _ _ nm x _ (by simp only [mkO]; rw [ev_other (by omega), ev_same (by simp only [size_put]; omega)]) (by simp only [mkO]; rw [ev_same (by simp only [size_put]; omega)])) ?_
  refine store_ret h3 w _ (floatM nm x) none 0 _ w.heap.size _ _ _ _ _ _ _ _ ?_ ?_ (blk_new _ _) (Nat.le_refl _) (Nat.zero_le _) (Kd.F_nil _ _ _) (below_alloc (Below.refl _ _) _) ?_ (fun _ _ h => h)
  · simp only [mkO]; rw [ev_other (by omega), ev_other (by omega), ev_other (by omega), ev_same (by omega)]
  · simp only [mkO]; rw [ev_same (by simp only [size_put]; omega)]
  · simp only [mkO, defers_put]; exact hd
set_option maxRecDepth 100000 in
set_option maxHeartbeats 1000000 in
theorem pointer_calls (F : Nat) (hF : ClosOk F) (nm : ByteArray) (v : Value) (m : Option Nat) (b : Nat) (w : World) (hv : PtrAt w b v m) : Calls Tryz.prog 55 #[.string nm, v, .func (.func F) #[] #[]] w (ElPost w (kidM nm m)) := by
  obtain ⟨pv, rfl⟩ : ∃ pv, v = .pointer pv := by
    rcases hv with ⟨rfl, _⟩ | ⟨g, x, rfl, _⟩ <;> exact ⟨_, rfl⟩
  refine calls_of_wp Tryz.func55 (c := .seq (.region 0 [mkO "node.go:24" (some 6) (.alloc 43) 0 []].toArray false) (.seq (.seq (.region 1 [mkO "node.go:25" (some 7) (.move (.tmp 1)) 52 [], mkO "node.go:25" (some 8) (.binOp .eql 52 (.tmp 7) (.const (.pointer none)) 52) 4 [⟨0, .data⟩]].toArray false)
      (.cond (.tmp 8) (.seq (.region 2 [mkO "node.go:26" (some 9) (.move (.tmp 0)) 9 [], mkO "node.go:26" (some 10) (.build 43 #[(0, .tmp 9)]) 43 [⟨0, .data⟩], mkO "node.go:26" none (.store 43 (.tmp 6) (.tmp 10)) 0 [⟨1, .data⟩, ⟨0, .phase⟩, ⟨1, .phase⟩]].toArray false) .ret) .skip))
      (.seq (.region 3 [mkO "node.go:28" (some 11) (.move (.tmp 2)) 108 [], mkO "node.go:28" (some 12) (.move (.tmp 0)) 9 [], mkO "node.go:28" (some 13) (.move (.tmp 1)) 52 [], mkO "node.go:28" (some 14) (.nilCheck (.tmp 13)) 0 [⟨2, .data⟩], mkO "node.go:28" (some 15) (.load 36 (.tmp 14)) 36 [⟨3, .data⟩],
        mkO "node.go:28" (some 16) (.call { callee := .value (.tmp 11), args := #[.tmp 12, .tmp 15], argTypes := #[9, 36] }) 43 [⟨0, .data⟩, ⟨1, .data⟩, ⟨4, .data⟩], mkO "node.go:28" none (.store 43 (.tmp 6) (.tmp 16)) 0 [⟨5, .data⟩, ⟨5, .chain⟩, ⟨0, .phase⟩, ⟨1, .phase⟩, ⟨2, .phase⟩, ⟨3, .phase⟩, ⟨4, .phase⟩, ⟨5, .phase⟩]].toArray false) .ret))) (by kernel_rfl) ?_
  obtain ⟨a, ha⟩ : ∃ a : Act, a = { tmps := #[.string nm, .pointer pv, .func (.func F) #[] #[]] ++ Array.replicate (Tryz.f55.ntmps - (#[.string nm, .pointer pv, .func (.func F) #[] #[]] : Array Value).size) undef, defers := [] } := ⟨_, rfl⟩
  rw [← ha]
  have e0 : a.eval (.tmp 0) = .string nm := by rw [ha]; simp only [Act.eval, Array.getD_eq_getD_getElem?]; rw [Array.getElem?_append_left (by simp)]; rfl
  have e1 : a.eval (.tmp 1) = .pointer pv := by rw [ha]; simp only [Act.eval, Array.getD_eq_getD_getElem?]; rw [Array.getElem?_append_left (by simp)]; rfl
  have e2 : a.eval (.tmp 2) = .func (.func F) #[] #[] := by rw [ha]; simp only [Act.eval, Array.getD_eq_getD_getElem?]; rw [Array.getElem?_append_left (by simp)]; rfl
  have hd : a.defers = [] := by rw [ha]
  have hsz : a.tmps.size = 17 := by
    rw [ha]
    have : Tryz.f55.ntmps = 17 := Tryz.ntmps55
    simp [this]
  clear ha
  refine wp_seq (wp_region_lit ?_)
  refine Kd.event_run rfl (o_alloc43 _ _ _ _ _) ?_
  refine wpList_nil ?_
  refine wp_seq (wp_seq (wp_region_lit ?_))
  refine Kd.event_run rfl (o_move _ _ _ _ _ _ (.pointer pv) _ (by simp only [mkO]; rw [ev_other (by omega)]; exact e1)) ?_
  refine Kd.event_run rfl (o_isnil _ _ _ _ _ pv _ (by simp only [mkO]; rw [ev_same (by simp only [size_put]; omega)])) ?_
  refine wpList_nil ?_
  have hnew := blk_new w (.cells #[.string ⟨#[]⟩, .int .i64 0, .bool false, .int .i64 0, .int .u64 0, .float .f64 0, .string ⟨#[]⟩, .slice none 0 0] 43 (0, 0))
  have hBa := below_alloc (Below.refl w.heap.size w) (.cells #[.string ⟨#[]⟩, .int .i64 0, .bool false, .int .i64 0, .int .u64 0, .float .f64 0, .string ⟨#[]⟩, .slice none 0 0] 43 (0, 0))
  have hs1 := World.size_alloc w (.cells #[.string ⟨#[]⟩, .int .i64 0, .bool false, .int .i64 0, .int .u64 0, .float .f64 0, .string ⟨#[]⟩, .slice none 0 0] 43 (0, 0))
  rcases hv with ⟨hp, rfl⟩ | ⟨g, x, hp, rfl, hg, hx⟩
  · obtain rfl : pv = none := by injection hp
    refine wp_cond_true (by simp only [mkO]; rw [ev_same (by simp only [size_put]; omega)]; rfl) ?_
    refine wp_seq (wp_region_lit ?_)
    refine Kd.event_run rfl (o_move _ _ _ _ _ _ (.string nm) _ (by simp only [mkO]; rw [ev_other (by omega), ev_other (by omega), ev_other (by omega)]; exact e0)) ?_
    refine Kd.event_run rfl (o_build0 _ _ _ _ _ nm _ (by simp only [mkO]; rw [ev_same (by simp only [size_put]; omega)])) ?_
    refine store_ret (fn := Tryz.f55) rfl w _ (nilM nm) none 0 _ w.heap.size _ _ _ _ _ _ _ _ ?_ ?_ hnew (Nat.le_refl _) (Nat.zero_le _) (Kd.F_nil _ _ _) hBa ?_ (fun _ _ h => h)
    · simp only [mkO]; rw [ev_other (by omega), ev_other (by omega), ev_other (by omega), ev_other (by omega), ev_same (by omega)]
    · simp only [mkO]; rw [ev_same (by simp only [size_put]; omega)]
    · simp only [mkO, defers_put]; exact hd
  · obtain rfl : pv = some ⟨g, 0, none⟩ := by injection hp
    refine wp_cond_false (by simp only [mkO]; rw [ev_same (by simp only [size_put]; omega)]; rfl) (wp_skip ?_)
    have hx1 := blk_alloc hx (.cells #[.string ⟨#[]⟩, .int .i64 0, .bool false, .int .i64 0, .int .u64 0, .float .f64 0, .string ⟨#[]⟩, .slice none 0 0] 43 (0, 0))
    refine wp_seq (wp_region_lit ?_)
    refine Kd.event_run rfl (o_move _ _ _ _ _ _ (.func (.func F) #[] #[]) _ (by simp only [mkO]; rw [ev_other (by omega), ev_other (by omega), ev_other (by omega)]; exact e2)) ?_
    refine Kd.event_run rfl (o_move _ _ _ _ _ _ (.string nm) _ (by simp only [mkO]; rw [ev_other (by omega), ev_other (by omega), ev_other (by omega), ev_other (by omega)]; exact e0)) ?_
    refine Kd.event_run rfl (o_move _ _ _ _ _ _ (.pointer (some ⟨g, 0, none⟩)) _ (by simp only [mkO]; rw [ev_other (by omega), ev_other (by omega), ev_other (by omega), ev_other (by omega), ev_other (by omega)]; exact e1)) ?_
    refine Kd.event_run rfl (o_nilcheck _ _ _ _ _ ⟨g, 0, none⟩ _ (by simp only [mkO]; rw [ev_same (by simp only [size_put]; omega)])) ?_
    refine Kd.event_run rfl (o_load36 _ g _ _ _ _ 0 (.float .f64 x) _ (by simp only [mkO]; rw [ev_same (by simp only [size_put]; omega)]) ((blk_cell hx1 0).trans rfl)) ?_
    have hF' := hF
    obtain ⟨fn, p, h1, h2, _, _, h5⟩ := hF'
    refine goesV_ (some 16) rfl rfl h1 h5 (by rw [h2]; rfl) #[.string nm, .float .f64 x] rfl ?_ ?_ ?_
    · simp only [mkO]; rw [ev_other (by omega), ev_other (by omega), ev_other (by omega), ev_other (by omega), ev_same (by simp only [size_put]; omega)]
    · simp only [mkO, List.map_toArray, List.map_cons, List.map_nil]
      rw [ev_other (by omega), ev_other (by omega), ev_other (by omega), ev_same (by simp only [size_put]; omega), ev_same (by simp only [size_put]; omega)]
    refine (clos_calls F hF nm x _).mono ?_
    rintro e W1 ⟨A, c, rfl, hl, hFF, hB1⟩
    refine ⟨_, rfl, ?_⟩
    refine store_ret (fn := Tryz.f55) rfl w W1 (floatM nm x) A c _ w.heap.size _ _ _ _ _ _ _ _ ?_ ?_ (blk_below hnew hB1) (Nat.le_refl _) hl (Kd.F_mono hFF (fun k hk => by constructor <;> omega)) (below_step hBa hB1) ?_ (fun _ _ h => h)
    · simp only [mkO]; rw [ev_other (by omega), ev_other (by omega), ev_other (by omega), ev_other (by omega), ev_other (by omega), ev_other (by omega), ev_other (by omega), ev_other (by omega), ev_same (by omega)]
    · simp only [mkO]; rw [ev_same (by simp only [size_put]; omega)]
    · simp only [mkO, defers_put]; exact hd
end Go.Proofs.YtabfglmpnkgecaaGreatDoor.X
