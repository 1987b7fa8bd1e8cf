/- The doors' records: a function that appends a node a field, by one law over the list of its fields. -/
import Derived.Test.YtabfglmpnkgecaaGreatDoorM01
import Derived.Deep.MidRow
set_option linter.unusedVariables false
set_option linter.unusedSimpArgs false
namespace Go.Proofs.YtabfglmpnkgecaaGreatDoor.X
open Go.RowKit Go.Proofs.YtabfglmpnkgecaaGreatDoorW.PrintWords Go.Proofs.YtabfglmpnkgecaaGreatDoorW.PrintLast Go.Proofs.YtabfglmpnkgecaaGreatDoorW.PrintMore Go.Proofs.YtabfglmpnkgecaaGreatDoor.Q
attribute [local go_sem] run_store_float

def ph (n : Nat) : List Edge := (List.range n).map (fun i => ⟨i, .phase⟩)
def mkO (pos : String) (dst : Option Nat) (op : Op) (ty : TypeId) (after : List Edge) : Oper := ⟨dst, op, ty, pos, after.toArray, none⟩
theorem ev_same {a : Act} {s : Nat} {v : Value} (h : s < a.tmps.size) : (a.put (some s) v).eval (.tmp s) = v := by
  simp [Act.put, Act.eval, h]
theorem ev_other {a : Act} {s t : Nat} {v : Value} (h : t ≠ s) : (a.put (some s) v).eval (.tmp t) = a.eval (.tmp t) := by
  simp [Act.put, Act.eval, Array.getElem?_setIfInBounds_ne (Ne.symm h)]
theorem size_put {a : Act} {s : Option Nat} {v : Value} : (a.put s v).tmps.size = a.tmps.size := by
  cases s <;> simp [Act.put]
theorem defers_put {a : Act} {s : Option Nat} {v : Value} : (a.put s v).defers = a.defers := by cases s <;> rfl
theorem o_addr7 (a : Act) (b : Nat) (W : World) (pos : String) (s t : Nat) (af : List Edge) (h5 : a.eval (.tmp t) = .pointer (some ⟨b, 0, none⟩)) :
  (execOp a.eval (mkO pos (some s) (.fieldAddr 43 (.tmp t) 7) 0 af)).run Tryz.prog W = .ok (.value (.pointer (some ⟨b, 7, none⟩))) W := by
  have hu := Tryz.underlying43
  simp only [execOp, mkO, h5]
  go_simp
theorem o_load41 (a : Act) (b : Nat) (W : World) (pos : String) (s t j : Nat) (v : Value) (af : List Edge) (h5 : a.eval (.tmp t) = .pointer (some ⟨b, j, none⟩)) (hc : W.cell? ⟨b, j, none⟩ = some v) :
  (execOp a.eval (mkO pos (some s) (.load 41 (.tmp t)) 41 af)).run Tryz.prog W = .ok (.value v) W := by
  have hu := Tryz.underlying41
  simp only [execOp, mkO, h5]
  go_simp
theorem o_slice (a : Act) (W : World) (pos : String) (s t : Nat) (v0 v1 v2 v3 v4 v5 v6 v7 : Value) (af : List Edge) (h : a.eval (.tmp t) = .agg #[v0, v1, v2, v3, v4, v5, v6, v7]) :
  (execOp a.eval (mkO pos (some s) (.buildSlice 41 1 #[(0, .tmp t)]) 41 af)).run Tryz.prog W = .ok (.value (.slice (some ⟨W.heap.size, 0, none⟩) 1 1)) (W.alloc (.cells #[v0, v1, v2, v3, v4, v5, v6, v7] 43)) := by
  have hu := Tryz.underlying43
  have hu1 := Tryz.underlying41
  have h' : a.tmps[t]?.getD undef = .agg #[v0, v1, v2, v3, v4, v5, v6, v7] := by rw [← h]; simp [Act.eval]
  simp only [execOp, mkO]
  go_simp
theorem o_store41 (a : Act) (b : Nat) (W : World) (pos : String) (p t : Nat) (A : Option Addr) (n c : Nat) (af : List Edge) (hp : a.eval (.tmp p) = .pointer (some ⟨b, 7, none⟩)) (ht : a.eval (.tmp t) = .slice A n c) (u : Value) (hc : W.cell? ⟨b, 7, none⟩ = some u) (hf : W.frozen? ⟨b, 7, none⟩ = false) :
  (execOp a.eval (mkO pos none (.store 41 (.tmp p) (.tmp t)) 0 af)).run Tryz.prog W = .ok .skip (W.setCell ⟨b, 7, none⟩ (.slice A n c)) := by
  have hu1 := Tryz.underlying41
  simp only [execOp, mkO, hp, ht]
  go_simp
theorem info43 : (Tryz.prog.info? 43).map (fun i => (i.zero, i.size, i.bytes)) = some (some (.agg #[(.string ⟨#[]⟩), (.int .i64 0), (.bool false), (.int .i64 0), (.int .u64 0), (.float .f64 0), (.string ⟨#[]⟩), (.slice none 0 0)]), 8, 96) := by kernel_rfl
def BSt (w : World) (T : TypeId) (name : ByteArray) (args : Array Value) (W : World) (v : Value) (xs : List S43) : Prop :=
  Kd.N k43 43 W w.heap.size (fun k => w.heap.size + 3 ≤ k) v xs ∧
  W.heap[w.heap.size]? = some (.cells args T (0, 0)) ∧
  W.heap[w.heap.size + 1]? = some (.cells #[.string ⟨#[]⟩, .int .i64 0, .bool false, .int .i64 0, .int .u64 0, .float .f64 0, .string ⟨#[]⟩, .slice none 0 0] 43 (0, 0)) ∧
  W.heap[w.heap.size + 2]? = some (.cells #[.string name, .int .i64 8, .bool false, .int .i64 0, .int .u64 0, .float .f64 0, .string ⟨#[]⟩, v] 43 (0, 0)) ∧
  Below w.heap.size w W
section
variable {P : Program} {ops : Array Oper} {rest : List Oper} {o : Oper} {a : Act} {Q : Exit → Act → World → Prop}
theorem event_skip {W w1 : World} (hgd : o.guard = none) (hd : o.dst = none) (hrun : (execOp a.eval o).run P W = .ok .skip w1) (h : wpList P ops Q rest a w1) : wpList P ops Q (o :: rest) a W := by
  refine wpList_plain hgd fun K hK => ?_
  unfold Oper.wp
  rw [hrun, Oper.upon_skip, hd]
  exact hK _ _ h
end
theorem o_load43 (a : Act) (b : Nat) (W : World) (pos : String) (s t : Nat) (v0 v1 v2 v3 v4 v5 v6 v7 : Value) (af : List Edge) (h5 : a.eval (.tmp t) = .pointer (some ⟨b, 0, none⟩)) (h : W.heap[b]? = some (.cells #[v0, v1, v2, v3, v4, v5, v6, v7] 43 (0, 0))) :
  (execOp a.eval (mkO pos (some s) (.load 43 (.tmp t)) 43 af)).run Tryz.prog W = .ok (.value (.agg #[v0, v1, v2, v3, v4, v5, v6, v7])) W := by
  have hu := Tryz.underlying43
  have h0 : W.cell? ⟨b, 0, none⟩ = some v0 := (blk_cell h 0).trans rfl
  have h1 : W.cell? ⟨b, 1, none⟩ = some v1 := (blk_cell h 1).trans rfl
  have h2 : W.cell? ⟨b, 2, none⟩ = some v2 := (blk_cell h 2).trans rfl
  have h3 : W.cell? ⟨b, 3, none⟩ = some v3 := (blk_cell h 3).trans rfl
  have h4 : W.cell? ⟨b, 4, none⟩ = some v4 := (blk_cell h 4).trans rfl
  have g5 : W.cell? ⟨b, 5, none⟩ = some v5 := (blk_cell h 5).trans rfl
  have h6 : W.cell? ⟨b, 6, none⟩ = some v6 := (blk_cell h 6).trans rfl
  have h7 : W.cell? ⟨b, 7, none⟩ = some v7 := (blk_cell h 7).trans rfl
  clear h
  simp only [execOp, mkO, h5]
  go_simp
theorem o_store43 (a : Act) (b : Nat) (W : World) (pos : String) (p t : Nat) (w0 w6 : ByteArray) (w1 w3 w4 : Int) (w2 : Bool) (w5 : Nat) (A : Option Addr) (n c : Nat) (z0 z1 z2 z3 z4 z5 z6 z7 : Value) (af : List Edge) (hp : a.eval (.tmp p) = .pointer (some ⟨b, 0, none⟩)) (ht : a.eval (.tmp t) = .agg #[.string w0, .int .i64 w1, .bool w2, .int .i64 w3, .int .u64 w4, .float .f64 w5, .string w6, .slice A n c]) (h : W.heap[b]? = some (.cells #[z0, z1, z2, z3, z4, z5, z6, z7] 43 (0, 0))) :
  (execOp a.eval (mkO pos none (.store 43 (.tmp p) (.tmp t)) 0 af)).run Tryz.prog W = .ok .skip ((((((((W.setCell ⟨b, 0, none⟩ (.string w0)).setCell ⟨b, 1, none⟩ (.int .i64 w1)).setCell ⟨b, 2, none⟩ (.bool w2)).setCell ⟨b, 3, none⟩ (.int .i64 w3)).setCell ⟨b, 4, none⟩ (.int .u64 w4)).setCell ⟨b, 5, none⟩ (.float .f64 w5)).setCell ⟨b, 6, none⟩ (.string w6)).setCell ⟨b, 7, none⟩ (.slice A n c)) := by
  have hu := Tryz.underlying43
  have k0 : W.cell? ⟨b, 0, none⟩ = some z0 := (blk_cell h 0).trans rfl
  have f0 := blk_frozen h 0
  have k1 : W.cell? ⟨b, 1, none⟩ = some z1 := (blk_cell h 1).trans rfl
  have f1 := blk_frozen h 1
  have k2 : W.cell? ⟨b, 2, none⟩ = some z2 := (blk_cell h 2).trans rfl
  have f2 := blk_frozen h 2
  have k3 : W.cell? ⟨b, 3, none⟩ = some z3 := (blk_cell h 3).trans rfl
  have f3 := blk_frozen h 3
  have k4 : W.cell? ⟨b, 4, none⟩ = some z4 := (blk_cell h 4).trans rfl
  have f4 := blk_frozen h 4
  have k5 : W.cell? ⟨b, 5, none⟩ = some z5 := (blk_cell h 5).trans rfl
  have f5 := blk_frozen h 5
  have k6 : W.cell? ⟨b, 6, none⟩ = some z6 := (blk_cell h 6).trans rfl
  have f6 := blk_frozen h 6
  have k7 : W.cell? ⟨b, 7, none⟩ = some z7 := (blk_cell h 7).trans rfl
  have f7 := blk_frozen h 7
  clear h
  simp only [execOp, mkO, hp, ht]
  go_simp
theorem o_box (a : Act) (W : World) (pos : String) (s t : Nat) (T : TypeId) (args : Array Value) (af : List Edge) (h : a.eval (.tmp t) = .agg args) :
  (execOp a.eval (mkO pos (some s) (.box T (.tmp t)) 0 af)).run Tryz.prog W = .ok (.value (.pointer (some ⟨W.heap.size, 0, none⟩))) (W.alloc (.cells args T)) := by
  simp only [execOp, mkO, h]
  go_simp
theorem o_alloc43 (a : Act) (W : World) (pos : String) (s : Nat) (af : List Edge) :
  (execOp a.eval (mkO pos (some s) (.alloc 43) 0 af)).run Tryz.prog W = .ok (.value (.pointer (some ⟨W.heap.size, 0, none⟩))) (W.alloc (.cells #[.string ⟨#[]⟩, .int .i64 0, .bool false, .int .i64 0, .int .u64 0, .float .f64 0, .string ⟨#[]⟩, .slice none 0 0] 43)) := by
  have hu := Tryz.underlying43
  simp only [execOp, mkO]
  go_simp
theorem o_move (a : Act) (W : World) (pos : String) (s t ty : Nat) (v : Value) (af : List Edge) (h : a.eval (.tmp t) = v) :
  (execOp a.eval (mkO pos (some s) (.move (.tmp t)) ty af)).run Tryz.prog W = .ok (.value v) W := by
  simp only [execOp, mkO, h]
  go_simp
theorem o_build8 (a : Act) (W : World) (pos : String) (s t : Nat) (name : ByteArray) (af : List Edge) (h : a.eval (.tmp t) = .string name) :
  (execOp a.eval (mkO pos (some s) (.build 43 #[(0, .tmp t), (1, .const (.int .i64 8))]) 43 af)).run Tryz.prog W = .ok (.value (.agg #[.string name, .int .i64 8, .bool false, .int .i64 0, .int .u64 0, .float .f64 0, .string ⟨#[]⟩, .slice none 0 0])) W := by
  have hu := Tryz.underlying43
  have h' : a.tmps[t]?.getD undef = .string name := by rw [← h]; simp [Act.eval]
  simp only [execOp, mkO]
  go_simp
def callT : Bool × List (List Nat × List Nat) := (true, [([], []), ([0], [0]), ([], []), ([2], [2]), ([3], [3]), ([4], [4]), ([1, 5, 4], [1, 5]), ([0, 1, 2, 3, 4, 5, 6], []), ([7, 6, 6, 0, 1, 2, 3, 4, 5, 6], [6, 7])])
theorem BSt.below {w W W' : World} {T : TypeId} {name : ByteArray} {args : Array Value} {v : Value} {xs : List S43} (h : BSt w T name args W v xs) (hb : Below W.heap.size W W') : BSt w T name args W' v xs :=
  ⟨Kd.N_below h.1 hb, blk_below h.2.1 hb, blk_below h.2.2.1 hb, blk_below h.2.2.2.1 hb, below_step h.2.2.2.2 hb⟩
theorem o_addrO (a : Act) (b : Nat) (W : World) (pos : String) (s t j off n : Nat) (T : TypeId) (af : List Edge) (h5 : a.eval (.tmp t) = .pointer (some ⟨b, 0, none⟩)) (fs : Array Field) (hu : Tryz.prog.underlying T = some (.struct fs)) (f : Field) (hj : fs[j]? = some f) (ho : f.offset = off) (hi : (Tryz.prog.info? f.type).map (·.size) = some (n + 1)) :
  (execOp a.eval (mkO pos (some s) (.fieldAddr T (.tmp t) j) 0 af)).run Tryz.prog W = .ok (.value (.pointer (some ⟨b, off, none⟩))) W := by
  cases hq : Tryz.prog.info? f.type with
  | none => simp [hq] at hi
  | some i =>
    have hs : i.size = n + 1 := by simpa [hq] using hi
    simp only [execOp, mkO, h5]
    go_simp
    rw [run_underlying hu]
    simp only [Result.andThen, hj, ho]
    simp [sizeOf, typeInfo, hq, hs, Sem.run_bind]
theorem o_loadR (a : Act) (b off : Nat) (W : World) (pos : String) (s t : Nat) (T : TypeId) (cs : List Value) (af : List Edge) (h5 : a.eval (.tmp t) = .pointer (some ⟨b, off, none⟩)) (hc : W.rangeAt b off cs) (d : TypeDesc) (hu : Tryz.prog.underlying T = some d) (hd : d.isRow = true) (hi : (Tryz.prog.info? T).map (·.size) = some cs.length) :
  (execOp a.eval (mkO pos (some s) (.load T (.tmp t)) T af)).run Tryz.prog W = .ok (.value (.agg cs.toArray)) W := by
  unfold execOp
  simp only [mkO, h5, Instr.loadAt, Instr.sureAddr, Sem.run_bind, Sem.run_pure, Result.andThen_ok, run_loadVar_mid W b off T cs d hc hu hd hi]
section
variable {P : Program} {ops : Array Oper} {oi : Oper} {a : Act} {Q : Exit → Act → World → Prop} {K : Act → World → Prop} {N : Option Tmp} {w w1 : World}
theorem op_value {v : Value} (hw : Region.wanted oi (yielded ops a.tmps) = true) (hN : oi.dst = N) (hrun : (execOp a.eval oi).run P w = .ok (.value v) w1) (h : K (a.put N v) w1) : if Region.wanted oi (yielded ops a.tmps) = true then Oper.wp P oi a w K Q else K (a.put N undef) w := by
  rw [if_pos hw]
  unfold Oper.wp
  rw [hrun, Oper.upon_value, hN]
  exact h
theorem op_skip (hw : Region.wanted oi (yielded ops a.tmps) = true) (hd : oi.dst = none) (hrun : (execOp a.eval oi).run P w = .ok .skip w1) (h : K a w1) : if Region.wanted oi (yielded ops a.tmps) = true then Oper.wp P oi a w K Q else K (a.put N undef) w := by
  rw [if_pos hw]
  unfold Oper.wp
  rw [hrun, Oper.upon_skip, hd]
  exact h
theorem last_skip {md : Region.Mode} {S : World → Prop} {ds : List Nat} {i fuel : Nat} {l : Array Bool} (l' : Array Bool) (hi : ops[i]? = some oi) (hd : oi.dst = none) (hg : oi.guard = none) (hc : readyB md ops l l' i = true) (hds : i ∈ ds)
    (hrun : (execOp a.eval oi).run P w = .ok .skip w1) (h : wpAnyLast P md ops Q S ds fuel l' a w1) : wpAnyLast P md ops Q S ds (fuel + 1) l a w :=
  last_ (N := none) l' hi hd hc hds (fun K hK => op_skip (by unfold Region.wanted; rw [hg]) hd hrun (hK.out _ _ h))
end
def recM (name : ByteArray) (kids : List S43) : S43 := ⟨name, 8, false, 0, 0, (0 : Nat), ⟨#[]⟩, kids⟩
/-- The cells of a node whose kids are there. -/
def cellsM (x : S43) (A : Option Addr) (c : Nat) : Array Value := #[.string x.f0, .int .i64 x.f1, .bool x.f2, .int .i64 x.f3, .int .u64 x.f4, .float .f64 x.f5, .string x.f6, .slice A x.f7.length c]
/-- What a function that makes a node answers. -/
def ElPost (w : World) (x : S43) : Ending → World → Prop := fun e w' => ∃ A c, e = .returned (.agg (cellsM x A c)) ∧ x.f7.length ≤ c ∧ Kd.F k43 w' (fun k => w.heap.size ≤ k) A x.f7.length x.f7 ∧ Below w.heap.size w w'
/-- A node is put behind the others: its cells stand in slot d. -/
theorem tail_wp {w W : World} {T : TypeId} {name : ByteArray} {args : Array Value} {v : Value} {xs : List S43} {x : S43} {A0 : Option Addr} {c0 : Nat} {a : Act} {s : Nat} {pos : String} {ops : Array Oper} {Q : Exit → Act → World → Prop} {af1 af2 af3 af4 : List Edge} {d : Nat} {okp : Nat → Prop}
    (hB : BSt w T name args W v xs) (hlen : xs.length ≤ 1000) (hsz : d + 4 ≤ a.tmps.size) (hd : 5 < s ∧ s + 1 < d)
    (h5 : a.eval (.tmp 5) = .pointer (some ⟨w.heap.size + 2, 0, none⟩)) (h1 : a.eval (.tmp (s + 1)) = v) (hu : a.eval (.tmp d) = .agg (cellsM x A0 c0)) (hx : Kd.FK k43 W okp x (cellsM x A0 c0).toList) (hok : ∀ k, okp k → w.heap.size + 3 ≤ k ∧ some k ≠ v.ownBlock)
    (k : ∀ a' W' v', (∀ t, t < d → a'.eval (.tmp t) = a.eval (.tmp t)) → a'.tmps.size = a.tmps.size → a'.defers = a.defers → BSt w T name args W' v' (xs ++ [x]) → Q .normal a' W') :
    wpList Tryz.prog ops Q [mkO pos (some (d + 1)) (.buildSlice 41 1 #[(0, .tmp d)]) 41 af1, mkO pos (some (d + 2)) (.call { callee := .builtin .append, args := #[.tmp (s + 1), .tmp (d + 1)], argTypes := #[41, 41] }) 41 af2, mkO pos (some (d + 3)) (.fieldAddr 43 (.tmp 5) 7) 0 af3, mkO pos none (.store 41 (.tmp (d + 3)) (.tmp (d + 2))) 0 af4] a W := by
  have hlt := blk_lt hB.2.2.2.1
  refine Kd.event_run rfl (o_slice _ _ _ _ _ _ _ _ _ _ _ _ _ _ hu) ?_
  refine Kd.N_append k43 (w0 := w) w.heap.size rfl (.tmp (s + 1)) (.tmp (d + 1)) 41 43 (.agg #[.string ⟨#[]⟩, .int .i64 0, .bool false, .int .i64 0, .int .u64 0, .float .f64 0, .string ⟨#[]⟩, .slice none 0 0]) 96 rfl Tryz.underlying41 info43 rfl (by decide) (by decide) v xs x (cellsM x A0 c0).toList (fun k => w.heap.size + 3 ≤ k) okp ?_ ?_ hx hok (fun k hk => by omega) hB.1 hB.2.2.2.2 hB.2.2.2.2.size (by omega) ?_
  · simp only [mkO]
    rw [ev_other (by omega)]
    exact h1
  · simp only [mkO]
    rw [ev_same (by omega)]
  intro v1 w1 ho hb hg hat
  have hne : ∀ g, g < w.heap.size + 3 → some g ≠ v.ownBlock := fun g hg he => by have := hB.1.1 g he.symm; omega
  have b0 := blk_grown hB.2.1 hg (hne _ (by omega))
  have b1 := blk_grown hB.2.2.1 hg (hne _ (by omega))
  have b2 := blk_grown hB.2.2.2.1 hg (hne _ (by omega))
  obtain ⟨A1, c1, rfl⟩ := Kd.N_slice ho
  refine Kd.event_run rfl (o_addr7 _ (w.heap.size + 2) _ _ _ _ _ ?_) ?_
  · simp only [mkO]
    rw [ev_other (by omega), ev_other (by omega)]
    exact h5
  refine event_skip rfl rfl (o_store41 _ (w.heap.size + 2) _ _ _ _ A1 (xs ++ [x]).length c1 _ ?_ ?_ _ ((blk_cell b2 7).trans rfl) (blk_frozen b2 7)) ?_
  · simp only [mkO]
    rw [ev_same (by simp only [size_put]; omega)]
  · simp only [mkO]
    rw [ev_other (by omega), ev_same (by simp only [size_put]; omega)]
  refine k _ _ (.slice A1 (xs ++ [x]).length c1) ?_ ?_ ?_ ⟨?_, ?_, ?_, ?_, ?_⟩
  · intro t ht
    simp only [mkO]
    rw [ev_other (by omega), ev_other (by omega), ev_other (by omega)]
  · simp only [mkO, size_put]
  · simp only [mkO, defers_put]
  · exact Kd.N_far ho (fun k hk => by show k ≠ w.heap.size + 2; omega) _
  · exact (Below.heap_setCell _ _ _ _ (by show w.heap.size ≠ w.heap.size + 2; omega)).trans b0
  · exact (Below.heap_setCell _ _ _ _ (by show w.heap.size + 1 ≠ w.heap.size + 2; omega)).trans b1
  · exact blk_put b2 7 _ rfl
  · exact below_set hb (by omega)
/-- A leaf's cells say the leaf. -/
theorem leafM_FK (W : World) (ok : Nat → Prop) (x : S43) (hx : x.f7 = []) : Kd.FK k43 W ok x (cellsM x none 0).toList := by
  have h := k43_mkF W ok x (A7 := none) (c7 := 0) (by rw [hx]; exact Nat.le_refl 0) (by rw [hx]; exact Kd.F_nil k43 W ok)
  exact h
/-- The record handed back. -/
def endCode (pl : String) (r s : Nat) : Code := .seq (.region r #[mkO pl (some s) (.load 43 (.tmp 5)) 43 [], mkO pl none (.store 43 (.tmp 4) (.tmp s)) 0 [⟨0, .data⟩, ⟨0, .phase⟩]] false) .ret
theorem end_wp (T : TypeId) (pl : String) (fn : Func) (hres : fn.results = #[.cell 4 43]) (w : World) (name : ByteArray) (args : Array Value) (r s : Nat) (a : Act) (W : World) (v : Value) (xs : List S43)
    (hB : BSt w T name args W v xs) (hsz : s + 1 ≤ a.tmps.size) (hs : 5 < s)
    (h4 : a.eval (.tmp 4) = .pointer (some ⟨w.heap.size + 1, 0, none⟩)) (h5 : a.eval (.tmp 5) = .pointer (some ⟨w.heap.size + 2, 0, none⟩)) (hd : a.defers = []) :
    (endCode pl r s).wp Tryz.prog (bodyPost Tryz.prog fn (ElPost w (recM name xs))) a W := by
  obtain ⟨A, c, rfl⟩ := Kd.N_slice hB.1
  refine wp_seq (wp_region_lit (l := [mkO pl (some s) (.load 43 (.tmp 5)) 43 [], mkO pl none (.store 43 (.tmp 4) (.tmp s)) 0 [⟨0, .data⟩, ⟨0, .phase⟩]]) ?_)
  refine Kd.event_run rfl (o_load43 _ (w.heap.size + 2) _ _ _ _ _ _ _ _ _ _ _ _ _ h5 hB.2.2.2.1) ?_
  refine event_skip rfl rfl (o_store43 _ (w.heap.size + 1) _ _ _ _ _ _ _ _ _ _ _ _ _ _ _ _ _ _ _ _ _ _ _ (by simp only [mkO]; rw [ev_other (by omega)]; exact h4) (by simp only [mkO]; rw [ev_same (by omega)]) hB.2.2.1) ?_
  refine wp_ret ?_
  refine bodyPost_ret (results_cell_row hres _ _ (w.heap.size + 1) 43 _ (0, 0) _ ?_ (put8 hB.2.2.1 _ _ _ _ _ _ _ _) Tryz.underlying43 rfl (by kernel_rfl)) hd ?_
  · have := h4
    simp only [mkO]
    rw [show ∀ (b : Act), b.tmps.getD 4 undef = b.eval (.tmp 4) from fun _ => rfl, ev_other (by omega)]
    exact h4
  · have hV := V_put8 (Kd.N_V (base' := W.heap.size) hB.1) (fun k hk => (by show k ≠ w.heap.size + 1; omega)) (.string name) (.int .i64 8) (.bool false) (.int .i64 0) (.int .u64 0) (.float .f64 0) (.string ⟨#[]⟩) (.slice A xs.length c)
    exact ⟨A, c, rfl, (Kd.V_at hV).2.1, Kd.F_mono (Kd.V_at hV).2.2 (fun k hk => by omega), below_put8 hB.2.2.2.2 (by omega) _ _ _ _ _ _ _ _⟩
theorem head_wp (T : TypeId) (p0 p1 : String) (rest : Code) (Q : Exit → Act → World → Prop) (name : ByteArray) (args : Array Value) (a : Act) (w : World)
    (e0 : a.eval (.tmp 0) = .string name) (e1 : a.eval (.tmp 1) = .agg args) (hs9 : 9 ≤ a.tmps.size)
    (k : ∀ a' W', a'.tmps.size = a.tmps.size → a'.defers = a.defers → a'.eval (.tmp 3) = .pointer (some ⟨w.heap.size, 0, none⟩) → a'.eval (.tmp 4) = .pointer (some ⟨w.heap.size + 1, 0, none⟩) → a'.eval (.tmp 5) = .pointer (some ⟨w.heap.size + 2, 0, none⟩) → BSt w T name args W' (.slice none 0 0) [] → rest.wp Tryz.prog Q a' W') :
    (Code.seq (.region 0 #[mkO p0 (some 3) (.box T (.tmp 1)) 0 [], mkO p0 (some 4) (.alloc 43) 0 []] false)
      (.seq (.region 1 #[mkO p1 (some 6) (.move (.tmp 0)) 9 [], mkO p1 (some 7) (.build 43 #[(0, .tmp 6), (1, .const (.int .i64 8))]) 43 [⟨0, .data⟩], mkO p1 (some 5) (.alloc 43) 0 [], mkO p1 none (.store 43 (.tmp 5) (.tmp 7)) 0 [⟨2, .data⟩, ⟨1, .data⟩, ⟨0, .phase⟩, ⟨1, .phase⟩, ⟨2, .phase⟩]] false) rest)).wp Tryz.prog Q a w := by
  refine wp_seq (wp_region_lit (l := [mkO p0 (some 3) (.box T (.tmp 1)) 0 [], mkO p0 (some 4) (.alloc 43) 0 []]) ?_)
  refine Kd.event_run rfl (o_box _ _ _ _ _ _ args _ e1) ?_
  refine Kd.event_run rfl (o_alloc43 _ _ _ _ _) ?_
  refine wp_seq (wp_region_lit (l := [mkO p1 (some 6) (.move (.tmp 0)) 9 [], mkO p1 (some 7) (.build 43 #[(0, .tmp 6), (1, .const (.int .i64 8))]) 43 [⟨0, .data⟩], mkO p1 (some 5) (.alloc 43) 0 [], mkO p1 none (.store 43 (.tmp 5) (.tmp 7)) 0 [⟨2, .data⟩, ⟨1, .data⟩, ⟨0, .phase⟩, ⟨1, .phase⟩, ⟨2, .phase⟩]]) ?_)
  refine Kd.event_run rfl (o_move _ _ _ _ _ _ (.string name) _ (by simp only [mkO]; rw [ev_other (by omega), ev_other (by omega)]; exact e0)) ?_
  refine Kd.event_run rfl (o_build8 _ _ _ _ _ name _ (by simp only [mkO]; rw [ev_same (by simp only [size_put]; omega)])) ?_
  refine Kd.event_run rfl (o_alloc43 _ _ _ _ _) ?_
  have s1 : (w.alloc (.cells args T)).heap.size = w.heap.size + 1 := World.size_alloc _ _
  have s2 : ((w.alloc (.cells args T)).alloc (.cells #[.string ⟨#[]⟩, .int .i64 0, .bool false, .int .i64 0, .int .u64 0, .float .f64 0, .string ⟨#[]⟩, .slice none 0 0] 43)).heap.size = w.heap.size + 2 := by rw [World.size_alloc, s1]
  have B := below_alloc (below_alloc (below_alloc (Below.refl w.heap.size w) (.cells args T)) (.cells #[.string ⟨#[]⟩, .int .i64 0, .bool false, .int .i64 0, .int .u64 0, .float .f64 0, .string ⟨#[]⟩, .slice none 0 0] 43)) (.cells #[.string ⟨#[]⟩, .int .i64 0, .bool false, .int .i64 0, .int .u64 0, .float .f64 0, .string ⟨#[]⟩, .slice none 0 0] 43)
  have b0 := blk_alloc (blk_alloc (blk_new w (.cells args T)) (.cells #[.string ⟨#[]⟩, .int .i64 0, .bool false, .int .i64 0, .int .u64 0, .float .f64 0, .string ⟨#[]⟩, .slice none 0 0] 43)) (.cells #[.string ⟨#[]⟩, .int .i64 0, .bool false, .int .i64 0, .int .u64 0, .float .f64 0, .string ⟨#[]⟩, .slice none 0 0] 43)
  have b1 := blk_alloc (blk_new (w.alloc (.cells args T)) (.cells #[.string ⟨#[]⟩, .int .i64 0, .bool false, .int .i64 0, .int .u64 0, .float .f64 0, .string ⟨#[]⟩, .slice none 0 0] 43)) (.cells #[.string ⟨#[]⟩, .int .i64 0, .bool false, .int .i64 0, .int .u64 0, .float .f64 0, .string ⟨#[]⟩, .slice none 0 0] 43)
  have b2 := blk_new ((w.alloc (.cells args T)).alloc (.cells #[.string ⟨#[]⟩, .int .i64 0, .bool false, .int .i64 0, .int .u64 0, .float .f64 0, .string ⟨#[]⟩, .slice none 0 0] 43)) (.cells #[.string ⟨#[]⟩, .int .i64 0, .bool false, .int .i64 0, .int .u64 0, .float .f64 0, .string ⟨#[]⟩, .slice none 0 0] 43)
  rw [s1] at b1
  rw [s2] at b2
  refine event_skip rfl rfl (o_store43 _ (w.heap.size + 2) _ _ _ _ name ⟨#[]⟩ 8 0 0 false 0 none 0 0 _ _ _ _ _ _ _ _ _ (by simp only [mkO]; rw [ev_same (by simp only [size_put]; omega), s2]) (by simp only [mkO]; rw [ev_other (by omega), ev_same (by simp only [size_put]; omega)]) b2) ?_
  refine k _ _ ?_ ?_ ?_ ?_ ?_ ⟨Kd.N_nil _ _ _ _ _, ?_, ?_, ?_, ?_⟩
  · simp only [mkO, size_put]
  · simp only [mkO, defers_put]
  · simp only [mkO]; rw [ev_other (by omega), ev_other (by omega), ev_other (by omega), ev_other (by omega), ev_same (by omega)]
  · simp only [mkO]; rw [ev_other (by omega), ev_other (by omega), ev_other (by omega), ev_same (by simp only [size_put]; omega), s1]
  · simp only [mkO]; rw [ev_same (by simp only [size_put]; omega), s2]
  · exact (far8 (by omega) _ _ _ _ _ _ _ _).trans b0
  · exact (far8 (by omega) _ _ _ _ _ _ _ _).trans b1
  · exact put8 b2 _ _ _ _ _ _ _ _
  · exact below_put8 B (by omega) _ _ _ _ _ _ _ _
def callOps (pos : String) (T j s F FT : Nat) (cargs : Array Operand) (ctys : Array TypeId) : List Oper :=
  [mkO pos (some s) (.fieldAddr 43 (.tmp 5) 7) 0 [],
   mkO pos (some (s + 1)) (.load 41 (.tmp s)) 41 [⟨0, .data⟩],
   mkO pos (some (s + 2)) (.fieldAddr T (.tmp 3) j) 0 [],
   mkO pos (some (s + 3)) (.load FT (.tmp (s + 2))) FT [⟨2, .data⟩],
   mkO pos (some (s + 4)) (.call { callee := .value (.func F), args := cargs, argTypes := ctys }) 43 [⟨3, .data⟩],
   mkO pos (some (s + 5)) (.buildSlice 41 1 #[(0, .tmp (s + 4))]) 41 [⟨4, .data⟩],
   mkO pos (some (s + 6)) (.call { callee := .builtin .append, args := #[.tmp (s + 1), .tmp (s + 5)], argTypes := #[41, 41] }) 41 [⟨1, .data⟩, ⟨5, .data⟩, ⟨4, .chain⟩],
   mkO pos (some (s + 7)) (.fieldAddr 43 (.tmp 5) 7) 0 (ph 7),
   mkO pos none (.store 41 (.tmp (s + 7)) (.tmp (s + 6))) 0 (⟨7, .data⟩ :: ⟨6, .data⟩ :: ⟨6, .chain⟩ :: ph 7)]
set_option maxHeartbeats 2000000 in
set_option maxRecDepth 100000 in
theorem callField {w W : World} {T j s F FT off n : Nat} {name : ByteArray} {args vals : Array Value} {cargs : Array Operand} {ctys : Array TypeId} {v lv : Value} {xs : List S43} {x : S43} {a : Act} {r : Nat} {pos : String} {last : Code} {fn ff : Func} {R : Ending → World → Prop}
    (hB : BSt w T name args W v xs) (hlen : xs.length ≤ 1000) (hsz : s + 8 ≤ a.tmps.size) (hs : 5 < s)
    (hT : rtab .any (callOps pos T j s F FT cargs ctys).toArray = callT)
    (fs : Array Field) (hu : Tryz.prog.underlying T = some (.struct fs)) (f : Field) (hj : fs[j]? = some f) (ho : f.offset = off) (hft : (Tryz.prog.info? f.type).map (·.size) = some (n + 1))
    (hload : ∀ (a' : Act) (W' : World), a'.eval (.tmp (s + 2)) = .pointer (some ⟨w.heap.size, off, none⟩) → W'.heap[w.heap.size]? = some (.cells args T (0, 0)) → (execOp a'.eval (mkO pos (some (s + 3)) (.load FT (.tmp (s + 2))) FT [⟨2, .data⟩])).run Tryz.prog W' = .ok (.value lv) W')
    (hvals : ∀ a' : Act, a'.eval (.tmp (s + 3)) = lv → cargs.map a'.eval = vals)
    (hF : Tryz.prog.funcs[F]? = some ff) (hFn : (ff.name == "runtime.NumGoroutine") = false) (hFb : ff.body.isSome = true)
    (hcall : ∀ w1, Below w.heap.size w w1 → Calls Tryz.prog F vals w1 (ElPost w1 x))
    (h3 : a.eval (.tmp 3) = .pointer (some ⟨w.heap.size, 0, none⟩)) (h5 : a.eval (.tmp 5) = .pointer (some ⟨w.heap.size + 2, 0, none⟩))
    (k : ∀ a' W' v', (∀ t, t < s → a'.eval (.tmp t) = a.eval (.tmp t)) → a'.tmps.size = a.tmps.size → a'.defers = a.defers → BSt w T name args W' v' (xs ++ [x]) → last.wp Tryz.prog (bodyPost Tryz.prog fn R) a' W') :
    (Code.seq (.region r (callOps pos T j s F FT cargs ctys).toArray true) last).wp Tryz.prog (bodyPost Tryz.prog fn R) a W := by
  have hQ : ∀ (n : Option Tmp) (v : Value) c (a : Act) (w : World), (Exit.then (last.wp Tryz.prog (bodyPost Tryz.prog fn R)) (bodyPost Tryz.prog fn R)) (.panic c) (a.put n v) w → (Exit.then (last.wp Tryz.prog (bodyPost Tryz.prog fn R)) (bodyPost Tryz.prog fn R)) (.panic c) a w := fun n v c a w h => by cases n <;> exact h
  have h0q : (callOps pos T j s F FT cargs ctys).toArray[0]? = some (mkO pos (some s) (.fieldAddr 43 (.tmp 5) 7) 0 []) := rfl
  have h1q : (callOps pos T j s F FT cargs ctys).toArray[1]? = some (mkO pos (some (s + 1)) (.load 41 (.tmp s)) 41 [⟨0, .data⟩]) := rfl
  have h2q : (callOps pos T j s F FT cargs ctys).toArray[2]? = some (mkO pos (some (s + 2)) (.fieldAddr T (.tmp 3) j) 0 []) := rfl
  have h3q : (callOps pos T j s F FT cargs ctys).toArray[3]? = some (mkO pos (some (s + 3)) (.load FT (.tmp (s + 2))) FT [⟨2, .data⟩]) := rfl
  have h4q : (callOps pos T j s F FT cargs ctys).toArray[4]? = some (mkO pos (some (s + 4)) (.call { callee := .value (.func F), args := cargs, argTypes := ctys }) 43 [⟨3, .data⟩]) := rfl
  have h5q : (callOps pos T j s F FT cargs ctys).toArray[5]? = some (mkO pos (some (s + 5)) (.buildSlice 41 1 #[(0, .tmp (s + 4))]) 41 [⟨4, .data⟩]) := rfl
  have h6q : (callOps pos T j s F FT cargs ctys).toArray[6]? = some (mkO pos (some (s + 6)) (.call { callee := .builtin .append, args := #[.tmp (s + 1), .tmp (s + 5)], argTypes := #[41, 41] }) 41 [⟨1, .data⟩, ⟨5, .data⟩, ⟨4, .chain⟩]) := rfl
  have h7q : (callOps pos T j s F FT cargs ctys).toArray[7]? = some (mkO pos (some (s + 7)) (.fieldAddr 43 (.tmp 5) 7) 0 (ph 7)) := rfl
  have h8q : (callOps pos T j s F FT cargs ctys).toArray[8]? = some (mkO pos none (.store 41 (.tmp (s + 7)) (.tmp (s + 6))) 0 (⟨7, .data⟩ :: ⟨6, .data⟩ :: ⟨6, .chain⟩ :: ph 7)) := rfl
  have hsz9 : (callOps pos T j s F FT cargs ctys).toArray.size = 9 := rfl
  generalize (callOps pos T j s F FT cargs ctys).toArray = ops at *
  refine wp_seq ?_
  refine start_ (n := 9) (S := fun w' => BSt w T name args w' v xs) (ds := [6, 7, 8]) #[false, false, false, false, false, false, false, false, false] (by kernel_rfl) hsz9 rfl (hB.below (below_drew (Below.refl _ _))) (fun hS0 => ?_)
  generalize W.drew = W0 at hS0 ⊢
  clear hB
  refine pure_ (i := 0) (N := some s) (v := .pointer (some ⟨w.heap.size + 2, 7, none⟩)) #[true, false, false, false, false, false, false, false, false] h0q rfl (any_of hT (by kernel_rfl)) (hQ _ _) (Or.inl ⟨rfl, fun w' => o_addr7 _ _ _ _ _ _ _ h5⟩) rfl ?_
  refine pure_ (i := 2) (N := some (s + 2)) (v := .pointer (some ⟨w.heap.size, off, none⟩)) #[true, false, true, false, false, false, false, false, false] h2q rfl (any_of hT (by kernel_rfl)) (hQ _ _) (Or.inl ⟨rfl, fun w' => o_addrO _ _ _ _ _ _ _ off n _ _ (by rw [ev_other (by omega)]; exact h3) fs hu f hj ho hft⟩) rfl ?_
  refine take_ (i := 1) (N := some (s + 1)) (v := v) #[true, true, true, false, false, false, false, false, false] h1q rfl (take_of hT (by kernel_rfl)) (hQ _ _) (Or.inl ⟨rfl, fun w' hS => o_load41 _ (w.heap.size + 2) _ _ _ _ 7 v _ (by rw [ev_other (by omega), ev_same (by omega)]) ((blk_cell hS.2.2.2.1 7).trans rfl)⟩) hS0 rfl ?_
  refine take_ (i := 3) (N := some (s + 3)) (v := lv) #[true, true, true, true, false, false, false, false, false] h3q rfl (take_of hT (by kernel_rfl)) (hQ _ _) (Or.inl ⟨rfl, fun w' hS => hload _ _ (by rw [ev_other (by omega), ev_same (by simp only [size_put]; omega)]) hS.2.1⟩) hS0 rfl ?_
  refine one_ (i := 4) (N := some (s + 4)) #[true, true, true, true, true, false, false, false, false] h4q rfl (one_of hT (by kernel_rfl)) (by decide) (fun K hK => ?_)
  refine goes_ hF hFn hFb vals rfl rfl rfl ?_ ?_
  · exact hvals _ (by rw [ev_same (by simp only [size_put]; omega)])
  refine (hcall W0 hS0.2.2.2.2).mono ?_
  rintro e W1 ⟨A, c, rfl, hl, hF1, hBl⟩
  refine ⟨_, rfl, ?_⟩
  have hS1 := hS0.below hBl
  have hSz := hBl.size
  have hOwn := Kd.N_lt hS0.1
  have hFK := k43_mkF W1 _ x hl hF1
  refine hK.out _ _ hS1 (fun _ => ?_)
  clear hK K hF1
  refine one_ (i := 5) (N := some (s + 5)) #[true, true, true, true, true, true, false, false, false] h5q rfl (one_of hT (by kernel_rfl)) (by decide) (fun K hK => ?_)
  refine op_value rfl rfl (o_slice _ _ _ _ _ _ _ _ _ _ _ _ _ _ (ev_same (by simp only [size_put]; omega))) ?_
  refine hK.out _ _ (hS1.below (below_alloc (Below.refl _ _) _)) (fun _ => ?_)
  clear hK K
  refine last_ (i := 6) (N := some (s + 6)) #[true, true, true, true, true, true, true, false, false] h6q rfl (one_of hT (by kernel_rfl)) (by decide) (fun K hK => ?_)
  have hlt := blk_lt hS0.2.2.2.1
  refine Kd.N_append_step k43 (w0 := w) w.heap.size rfl (.tmp (s + 1)) (.tmp (s + 5)) 41 43 (.agg #[.string ⟨#[]⟩, .int .i64 0, .bool false, .int .i64 0, .int .u64 0, .float .f64 0, .string ⟨#[]⟩, .slice none 0 0]) 96 rfl Tryz.underlying41 info43 rfl (by decide) (by decide) v xs x (cellsM x A c).toList (fun k => w.heap.size + 3 ≤ k) (fun k => W0.heap.size ≤ k) ?_ ?_ hFK (fun k hk => ⟨by omega, fun he => by have := hOwn k he.symm; omega⟩) (fun k hk => by omega) hS1.1 hS1.2.2.2.2 hS1.2.2.2.2.size (by omega) ?_
  · try simp only [mkO]
    rw [ev_other (by omega), ev_other (by omega), ev_other (by omega), ev_same (by simp only [size_put]; omega)]
  · try simp only [mkO]
    rw [ev_same (by simp only [size_put]; omega)]
  intro v1 w1 ho' hb hg hat
  have hne : ∀ g, g < w.heap.size + 3 → some g ≠ v.ownBlock := fun g hg he => by have := hS1.1.1 g he.symm; omega
  have b0 := blk_grown hS1.2.1 hg (hne _ (by omega))
  have b1 := blk_grown hS1.2.2.1 hg (hne _ (by omega))
  have b2 := blk_grown hS1.2.2.2.1 hg (hne _ (by omega))
  obtain ⟨A1, c1, rfl⟩ := Kd.N_slice ho'
  refine hK.out _ _ ?_
  clear hK K
  change wpAnyLast _ _ _ _ _ _ _ _ (Act.put _ (some (s + 6)) _) _
  refine pure_ (i := 7) (N := some (s + 7)) (v := .pointer (some ⟨w.heap.size + 2, 7, none⟩)) #[true, true, true, true, true, true, true, true, false] h7q rfl (any_of hT (by kernel_rfl)) (hQ _ _) (Or.inl ⟨rfl, fun w' => o_addr7 _ _ _ _ _ _ _ ?_⟩) rfl ?_
  · try simp only [mkO]
    rw [ev_other (by omega), ev_other (by omega), ev_other (by omega), ev_other (by omega), ev_other (by omega), ev_other (by omega), ev_other (by omega)]
    exact h5
  refine last_skip (i := 8) (fuel := 0) (w1 := w1.setCell ⟨w.heap.size + 2, 7, none⟩ (.slice A1 (xs ++ [x]).length c1)) #[true, true, true, true, true, true, true, true, true] h8q rfl rfl (one_of hT (by kernel_rfl)) (by decide) ?_ ?_
  · refine (o_store41 _ (w.heap.size + 2) w1 pos (s + 7) (s + 6) A1 (xs ++ [x]).length c1 (⟨7, .data⟩ :: ⟨6, .data⟩ :: ⟨6, .chain⟩ :: ph 7) ?_ ?_ v ((blk_cell b2 7).trans rfl) (blk_frozen b2 7))
    · rw [ev_same (by simp only [size_put]; omega)]
    · rw [ev_other (by omega), ev_same (by simp only [size_put]; omega)]
  have hrd : (Region.ready .any ops #[true, true, true, true, true, true, true, true, true] == []) = true := done_of hT (by kernel_rfl)
  refine done_ hrd ?_
  show last.wp Tryz.prog (bodyPost Tryz.prog fn R) _ _
  refine k _ _ (.slice A1 (xs ++ [x]).length c1) ?_ ?_ ?_ ⟨?_, ?_, ?_, ?_, ?_⟩
  · intro t ht
    rw [ev_other (by omega), ev_other (by omega), ev_other (by omega), ev_other (by omega), ev_other (by omega), ev_other (by omega), ev_other (by omega), ev_other (by omega)]
  · simp only [size_put]
  · simp only [defers_put]
  · exact Kd.N_far ho' (fun k hk => by show k ≠ w.heap.size + 2; omega) _
  · exact (Below.heap_setCell _ _ _ _ (by show w.heap.size ≠ w.heap.size + 2; omega)).trans b0
  · exact (Below.heap_setCell _ _ _ _ (by show w.heap.size + 1 ≠ w.heap.size + 2; omega)).trans b1
  · exact blk_put b2 7 _ rfl
  · exact below_set hb (by omega)
end Go.Proofs.YtabfglmpnkgecaaGreatDoor.X

/- The record of a LoadAvg: three floats. -/
namespace Go.Proofs.YtabfglmpnkgecaaGreatDoor.X
open Go.RowKit Go.Proofs.YtabfglmpnkgecaaGreatDoorW.PrintWords Go.Proofs.YtabfglmpnkgecaaGreatDoorW.PrintLast Go.Proofs.YtabfglmpnkgecaaGreatDoorW.PrintMore Go.Proofs.YtabfglmpnkgecaaGreatDoor.Q
attribute [local go_sem] run_store_float

def floatM (name : ByteArray) (f : Nat) : S43 := ⟨name, 4, false, 0, 0, f, ⟨#[]⟩, []⟩
def fieldOpsF (pos : String) (T j s : Nat) (name : ByteArray) : List Oper :=
  [mkO pos (some s) (.fieldAddr 43 (.tmp 5) 7) 0 [],
   mkO pos (some (s + 1)) (.load 41 (.tmp s)) 41 [⟨0, .data⟩],
   mkO pos (some (s + 2)) (.fieldAddr T (.tmp 3) j) 0 [],
   mkO pos (some (s + 3)) (.load 36 (.tmp (s + 2))) 36 [⟨2, .data⟩],
   mkO pos (some (s + 4)) (.build 43 #[(0, .const (.string name)), (1, .const (.int .i64 4)), (5, .tmp (s + 3))]) 43 [⟨3, .data⟩],
   mkO pos (some (s + 5)) (.buildSlice 41 1 #[(0, .tmp (s + 4))]) 41 [⟨4, .data⟩],
   mkO pos (some (s + 6)) (.call { callee := .builtin .append, args := #[.tmp (s + 1), .tmp (s + 5)], argTypes := #[41, 41] }) 41 [⟨1, .data⟩, ⟨5, .data⟩],
   mkO pos (some (s + 7)) (.fieldAddr 43 (.tmp 5) 7) 0 (ph 7),
   mkO pos none (.store 41 (.tmp (s + 7)) (.tmp (s + 6))) 0 (⟨7, .data⟩ :: ⟨6, .data⟩ :: ⟨6, .chain⟩ :: ph 7)]
theorem o_load36 (a : Act) (b : Nat) (W : World) (pos : String) (s t j : Nat) (v : Value) (af : List Edge) (h5 : a.eval (.tmp t) = .pointer (some ⟨b, j, none⟩)) (hc : W.cell? ⟨b, j, none⟩ = some v) :
  (execOp a.eval (mkO pos (some s) (.load 36 (.tmp t)) 36 af)).run Tryz.prog W = .ok (.value v) W := by
  have hu := Tryz.underlying36
  simp only [execOp, mkO, h5]
  go_simp
theorem o_build4 (a : Act) (W : World) (pos : String) (s t : Nat) (name : ByteArray) (n : Nat) (af : List Edge) (h : a.eval (.tmp t) = .float .f64 n) :
  (execOp a.eval (mkO pos (some s) (.build 43 #[(0, .const (.string name)), (1, .const (.int .i64 4)), (5, .tmp t)]) 43 af)).run Tryz.prog W = .ok (.value (.agg #[.string name, .int .i64 4, .bool false, .int .i64 0, .int .u64 0, .float .f64 n, .string ⟨#[]⟩, .slice none 0 0])) W := by
  have hu := Tryz.underlying43
  have h' : a.tmps[t]?.getD undef = .float .f64 n := by rw [← h]; simp [Act.eval]
  simp only [execOp, mkO]
  go_simp
def FieldIs (T : TypeId) (j ft : Nat) : Prop := ∃ fs f, Tryz.prog.underlying T = some (.struct fs) ∧ fs[j]? = some f ∧ f.offset = j ∧ f.type = ft
/-- What a record's function answers: its name, its nodes, in new memory. -/
def RecPost (w : World) (name : ByteArray) (xs : List S43) : Ending → World → Prop := fun e w' => ∃ A c, e = .returned (.agg #[.string name, .int .i64 8, .bool false, .int .i64 0, .int .u64 0, .float .f64 0, .string ⟨#[]⟩, .slice A xs.length c]) ∧ xs.length ≤ c ∧ Kd.F k43 w' (fun k => w.heap.size ≤ k) A xs.length xs ∧ Below w.heap.size w w'
theorem fieldFloat {w W : World} {T : TypeId} {name fname : ByteArray} {args : Array Value} {v : Value} {xs : List S43} {n : Nat} {a : Act} {s j r : Nat} {pos : String} {Q : Exit → Act → World → Prop} {last : Code}
    (hB : BSt w T name args W v xs) (hlen : xs.length ≤ 1000) (hsz : s + 8 ≤ a.tmps.size) (hs : 5 < s) (hT : FieldIs T j 36)
    (hn : args[j]? = some (.float .f64 n))
    (h3 : a.eval (.tmp 3) = .pointer (some ⟨w.heap.size, 0, none⟩)) (h5 : a.eval (.tmp 5) = .pointer (some ⟨w.heap.size + 2, 0, none⟩))
    (k : ∀ a' W' v', (∀ t, t < s → a'.eval (.tmp t) = a.eval (.tmp t)) → a'.tmps.size = a.tmps.size → a'.defers = a.defers → BSt w T name args W' v' (xs ++ [floatM fname n]) → last.wp Tryz.prog Q a' W') :
    (Code.seq (.region r (fieldOpsF pos T j s fname).toArray false) last).wp Tryz.prog Q a W := by
  obtain ⟨fs, f, hu, hj, ho, ht⟩ := hT
  refine wp_seq (wp_region_lit ?_)
  unfold fieldOpsF
  refine Kd.event_run rfl (o_addr7 _ (w.heap.size + 2) _ _ _ _ _ h5) ?_
  refine Kd.event_run rfl (o_load41 _ (w.heap.size + 2) _ _ _ _ 7 v _ (by simp only [mkO]; rw [ev_same (by omega)]) ((blk_cell hB.2.2.2.1 7).trans rfl)) ?_
  refine Kd.event_run rfl (o_addrO _ w.heap.size _ _ _ _ _ j 0 T _ (by simp only [mkO]; rw [ev_other (by omega), ev_other (by omega)]; exact h3) fs hu f hj ho (by rw [ht]; kernel_rfl)) ?_
  refine Kd.event_run rfl (o_load36 _ w.heap.size _ _ _ _ j (.float .f64 n) _ (by simp only [mkO]; rw [ev_same (by simp only [size_put]; omega)]) ((blk_cell hB.2.1 j).trans hn)) ?_
  refine Kd.event_run rfl (o_build4 _ _ _ _ _ fname n _ (by simp only [mkO]; rw [ev_same (by simp only [size_put]; omega)])) ?_
  refine tail_wp (d := s + 4) (s := s) (x := floatM fname n) (A0 := none) (c0 := 0) (okp := fun _ => False) hB hlen ?_ ⟨hs, by omega⟩ ?_ ?_ ?_ (leafM_FK W _ (floatM fname n) rfl) (fun k hk => hk.elim) ?_
  · simp only [mkO, size_put]; omega
  · simp only [mkO]; rw [ev_other (by omega), ev_other (by omega), ev_other (by omega), ev_other (by omega), ev_other (by omega)]; exact h5
  · simp only [mkO]; rw [ev_other (by omega), ev_other (by omega), ev_other (by omega), ev_same (by simp only [size_put]; omega)]
  · simp only [mkO]; rw [ev_same (by simp only [size_put]; omega)]; rfl
  · intro a' W' v' h1 h2 h3' h4
    refine k a' W' v' (fun t ht => ?_) ?_ ?_ h4
    · rw [h1 t (by omega)]
      simp only [mkO]; rw [ev_other (by omega), ev_other (by omega), ev_other (by omega), ev_other (by omega), ev_other (by omega)]
    · rw [h2]; simp only [mkO, size_put]
    · rw [h3']; simp only [mkO, defers_put]

theorem body44 : Tryz.f44.body = some (.seq (.region 0 #[mkO "nodes.go:140" (some 3) (.box 93 (.tmp 1)) 0 [], mkO "nodes.go:140" (some 4) (.alloc 43) 0 []] false)
      (.seq (.region 1 #[mkO "nodes.go:141" (some 6) (.move (.tmp 0)) 9 [], mkO "nodes.go:141" (some 7) (.build 43 #[(0, .tmp 6), (1, .const (.int .i64 8))]) 43 [⟨0, .data⟩], mkO "nodes.go:141" (some 5) (.alloc 43) 0 [], mkO "nodes.go:141" none (.store 43 (.tmp 5) (.tmp 7)) 0 [⟨2, .data⟩, ⟨1, .data⟩, ⟨0, .phase⟩, ⟨1, .phase⟩, ⟨2, .phase⟩]] false)
        (.seq (.region 2 (fieldOpsF "nodes.go:142" 93 0 8 ⟨#[76, 111, 97, 100, 49]⟩).toArray false) (.seq (.region 3 (fieldOpsF "nodes.go:143" 93 1 16 ⟨#[76, 111, 97, 100, 53]⟩).toArray false) (.seq (.region 4 (fieldOpsF "nodes.go:144" 93 2 24 ⟨#[76, 111, 97, 100, 49, 53]⟩).toArray false)
          (endCode "nodes.go:145" 5 32)))))) := by kernel_rfl
def loadKids : List S43 := [floatM ⟨#[76, 111, 97, 100, 49]⟩ 4602678819172646912, floatM ⟨#[76, 111, 97, 100, 53]⟩ 4598175219545276416, floatM ⟨#[76, 111, 97, 100, 49, 53]⟩ 4604930618986332160]
def loadArgs : Array Value := #[.float .f64 4602678819172646912, .float .f64 4598175219545276416, .float .f64 4604930618986332160]
theorem field93 : ∀ i, i < 3 → FieldIs 93 i 36 := fun i hi => by
  obtain rfl | rfl | rfl : i = 0 ∨ i = 1 ∨ i = 2 := by omega
  all_goals exact ⟨_, _, Tryz.underlying93, rfl, rfl, rfl⟩
set_option maxRecDepth 100000 in
set_option maxHeartbeats 2000000 in
theorem load44 (name : ByteArray) (w : World) : Calls Tryz.prog 44 #[.string name, .agg loadArgs] w (RecPost w name loadKids) := by
  refine calls_of_wp Tryz.func44 body44 ?_
  obtain ⟨args, hargs⟩ : ∃ args, args = loadArgs := ⟨_, rfl⟩
  rw [← hargs]
  obtain ⟨a, ha⟩ : ∃ a : Act, a = { tmps := #[.string name, .agg args] ++ Array.replicate (Tryz.f44.ntmps - (#[.string name, .agg args] : Array Value).size) undef, defers := [] } := ⟨_, rfl⟩
  rw [← ha]
  have e0 : a.eval (.tmp 0) = .string name := by rw [ha]; simp only [Act.eval, Array.getD_eq_getD_getElem?]; rw [Array.getElem?_append_left (by simp)]; rfl
  have e1 : a.eval (.tmp 1) = .agg args := by rw [ha]; simp only [Act.eval, Array.getD_eq_getD_getElem?]; rw [Array.getElem?_append_left (by simp)]; rfl
  have hd : a.defers = [] := by rw [ha]
  have hsz : a.tmps.size = 33 := by
    rw [ha]
    have : Tryz.f44.ntmps = 33 := Tryz.ntmps44
    simp [this]
  clear ha
  refine head_wp 93 _ _ _ _ name args a w e0 e1 (by omega) ?_
  intro a1 W1 q1 q2 q3 q4 q5 q6
  refine fieldFloat q6 (by decide) (by omega) (by omega) (field93 0 (by omega)) (n := 4602678819172646912) (by rw [hargs]; rfl) q3 q5 ?_
  intro a2 W2 v2 r1 r2 r3 r4
  refine fieldFloat r4 (by decide) (by omega) (by omega) (field93 1 (by omega)) (n := 4598175219545276416) (by rw [hargs]; rfl) (by rw [r1 3 (by omega)]; exact q3) (by rw [r1 5 (by omega)]; exact q5) ?_
  intro a3 W3 v3 s1 s2 s3 s4
  refine fieldFloat s4 (by decide) (by omega) (by omega) (field93 2 (by omega)) (n := 4604930618986332160) (by rw [hargs]; rfl) (by rw [s1 3 (by omega), r1 3 (by omega)]; exact q3) (by rw [s1 5 (by omega), r1 5 (by omega)]; exact q5) ?_
  intro a4 W4 v4 t1 t2 t3 t4
  exact end_wp 93 "nodes.go:145" Tryz.f44 rfl w name args 5 32 a4 W4 v4 _ t4 (by omega) (by omega) (by rw [t1 4 (by omega), s1 4 (by omega), r1 4 (by omega)]; exact q4) (by rw [t1 5 (by omega), s1 5 (by omega), r1 5 (by omega)]; exact q5) (by rw [t3, s3, r3, q2, hd])
end Go.Proofs.YtabfglmpnkgecaaGreatDoor.X
