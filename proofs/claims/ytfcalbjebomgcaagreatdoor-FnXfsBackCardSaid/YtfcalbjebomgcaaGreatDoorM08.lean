/- The record of all lines: a field that a record's function makes; the region draws its order. -/
import Derived.Test.YtfcalbjebomgcaaGreatDoorM07
import Derived.Deep.MidRow
import Derived.Test.YtfcalbjebomgcaaGreatDoorM06
import Derived.StillTail
import Derived.Laws.CopyOwn
set_option linter.unusedVariables false
set_option linter.unusedSimpArgs false
namespace Go.Proofs.YtfcalbjebomgcaaGreatDoor.X
open Go.RowKit Go.Proofs.YtfcalbjebomgcaaGreatDoorW.PrintWords Go.Proofs.YtfcalbjebomgcaaGreatDoorW.PrintLast Go.Proofs.YtfcalbjebomgcaaGreatDoorW.PrintMore Go.Proofs.YtfcalbjebomgcaaGreatDoor.Q
attribute [local go_sem] run_store_float

def callOps (pos : String) (T j s F FT : Nat) (name : ByteArray) : List Oper :=
  [mkO pos (some s) (.fieldAddr 43 (.tmp 5) 7) 0 [],
   mkO pos (some (s + 1)) (.load 41 (.tmp s)) 41 [⟨0, .data⟩],
   mkO pos (some (s + 2)) (.fieldAddr T (.tmp 3) j) 0 [],
   mkO pos (some (s + 3)) (.load FT (.tmp (s + 2))) FT [⟨2, .data⟩],
   mkO pos (some (s + 4)) (.call { callee := .value (.func F), args := #[.const (.string name), .tmp (s + 3)], argTypes := #[9, FT] }) 43 [⟨3, .data⟩],
   mkO pos (some (s + 5)) (.buildSlice 41 1 #[(0, .tmp (s + 4))]) 41 [⟨4, .data⟩],
   mkO pos (some (s + 6)) (.call { callee := .builtin .append, args := #[.tmp (s + 1), .tmp (s + 5)], argTypes := #[41, 41] }) 41 [⟨1, .data⟩, ⟨5, .data⟩, ⟨4, .chain⟩],
   mkO pos (some (s + 7)) (.fieldAddr 43 (.tmp 5) 7) 0 (ph 7),
   mkO pos none (.store 41 (.tmp (s + 7)) (.tmp (s + 6))) 0 (⟨7, .data⟩ :: ⟨6, .data⟩ :: ⟨6, .chain⟩ :: ph 7)]
def callT : Bool × List (List Nat × List Nat) := (true, [([], []), ([0], [0]), ([], []), ([2], [2]), ([3], [3]), ([4], [4]), ([1, 5, 4], [1, 5]), ([0, 1, 2, 3, 4, 5, 6], []), ([7, 6, 6, 0, 1, 2, 3, 4, 5, 6], [6, 7])])

theorem BSt.below {w W W' : World} {T : TypeId} {name : ByteArray} {args : Array Value} {v : Value} {xs : List S43} (h : BSt w T name args W v xs) (hb : Below W.heap.size W W') : BSt w T name args W' v xs :=
  ⟨Kd.N_below h.1 hb, blk_below h.2.1 hb, blk_below h.2.2.1 hb, blk_below h.2.2.2.1 hb, below_step h.2.2.2.2 hb⟩
def recM (name : ByteArray) (kids : List S43) : S43 := ⟨name, 8, false, 0, 0, (0 : Nat), ⟨#[]⟩, kids⟩

theorem o_addrO (a : Act) (b : Nat) (W : World) (pos : String) (s t j off n : Nat) (T : TypeId) (af : List Edge) (h5 : a.eval (.tmp t) = .pointer (some ⟨b, 0, none⟩)) (fs : Array Field) (hu : Tryz.prog.underlying T = some (.struct fs)) (f : Field) (hj : fs[j]? = some f) (ho : f.offset = off) (hi : (Tryz.prog.info? f.type).map (·.size) = some (n + 1)) :
  (execOp a.eval (mkO pos (some s) (.fieldAddr T (.tmp t) j) 0 af)).run Tryz.prog W = .ok (.value (.pointer (some ⟨b, off, none⟩))) W := by
  cases hq : Tryz.prog.info? f.type with
  | none => simp [hq] at hi
  | some i =>
    have hs : i.size = n + 1 := by simpa [hq] using hi
    simp only [execOp, mkO, h5]
    go_simp
    rw [run_underlying hu]
    simp only [Result.andThen, hj, ho]
    simp [sizeOf, typeInfo, hq, hs, Sem.run_bind]
theorem o_loadR (a : Act) (b off : Nat) (W : World) (pos : String) (s t : Nat) (T : TypeId) (cs : List Value) (af : List Edge) (h5 : a.eval (.tmp t) = .pointer (some ⟨b, off, none⟩)) (hc : W.rangeAt b off cs) (d : TypeDesc) (hu : Tryz.prog.underlying T = some d) (hd : d.isRow = true) (hi : (Tryz.prog.info? T).map (·.size) = some cs.length) :
  (execOp a.eval (mkO pos (some s) (.load T (.tmp t)) T af)).run Tryz.prog W = .ok (.value (.agg cs.toArray)) W := by
  unfold execOp
  simp only [mkO, h5, Instr.loadAt, Instr.sureAddr, Sem.run_bind, Sem.run_pure, Result.andThen_ok, run_loadVar_mid W b off T cs d hc hu hd hi]

theorem defers_put {a : Act} {s : Option Nat} {v : Value} : (a.put s v).defers = a.defers := by cases s <;> rfl
section
variable {P : Program} {ops : Array Oper} {oi : Oper} {a : Act} {Q : Exit → Act → World → Prop} {K : Act → World → Prop} {N : Option Tmp} {w w1 : World}
theorem op_value {v : Value} (hw : Region.wanted oi (yielded ops a.tmps) = true) (hN : oi.dst = N) (hrun : (execOp a.eval oi).run P w = .ok (.value v) w1) (h : K (a.put N v) w1) : if Region.wanted oi (yielded ops a.tmps) = true then Oper.wp P oi a w K Q else K (a.put N undef) w := by
  rw [if_pos hw]
  unfold Oper.wp
  rw [hrun, Oper.upon_value, hN]
  exact h
theorem op_skip (hw : Region.wanted oi (yielded ops a.tmps) = true) (hd : oi.dst = none) (hrun : (execOp a.eval oi).run P w = .ok .skip w1) (h : K a w1) : if Region.wanted oi (yielded ops a.tmps) = true then Oper.wp P oi a w K Q else K (a.put N undef) w := by
  rw [if_pos hw]
  unfold Oper.wp
  rw [hrun, Oper.upon_skip, hd]
  exact h
theorem last_skip {md : Region.Mode} {S : World → Prop} {ds : List Nat} {i fuel : Nat} {l : Array Bool} (l' : Array Bool) (hi : ops[i]? = some oi) (hd : oi.dst = none) (hg : oi.guard = none) (hc : readyB md ops l l' i = true) (hds : i ∈ ds)
    (hrun : (execOp a.eval oi).run P w = .ok .skip w1) (h : wpAnyLast P md ops Q S ds fuel l' a w1) : wpAnyLast P md ops Q S ds (fuel + 1) l a w :=
  last_ (N := none) l' hi hd hc hds (fun K hK => op_skip (by unfold Region.wanted; rw [hg]) hd hrun (hK.out _ _ h))
end
set_option maxHeartbeats 2000000 in
set_option maxRecDepth 100000 in
theorem callField {w W : World} {T j s F FT off : Nat} {name fname : ByteArray} {args : Array Value} {v : Value} {xs ys : List S43} {cs : List Value} {a : Act} {r : Nat} {pos : String} {last : Code} {fn ff : Func} {R : Ending → World → Prop}
    (hB : BSt w T name args W v xs) (hlen : xs.length ≤ 1000) (hsz : s + 8 ≤ a.tmps.size) (hs : 5 < s)
    (hT : rtab .any (callOps pos T j s F FT fname).toArray = callT)
    (fs : Array Field) (hu : Tryz.prog.underlying T = some (.struct fs)) (f : Field) (hj : fs[j]? = some f) (ho : f.offset = off) (hft : f.type = FT)
    (d : TypeDesc) (hd : Tryz.prog.underlying FT = some d) (hdr : d.isRow = true) (hi : (Tryz.prog.info? FT).map (·.size) = some cs.length) (hc0 : 0 < cs.length)
    (hargs : ∀ i u, cs[i]? = some u → args[off + i]? = some u)
    (hF : Tryz.prog.funcs[F]? = some ff) (hFn : (ff.name == "runtime.NumGoroutine") = false) (hFb : ff.body.isSome = true)
    (hcall : ∀ w1, Calls Tryz.prog F #[.string fname, .agg cs.toArray] w1 (RecPost w1 fname ys))
    (h3 : a.eval (.tmp 3) = .pointer (some ⟨w.heap.size, 0, none⟩)) (h5 : a.eval (.tmp 5) = .pointer (some ⟨w.heap.size + 2, 0, none⟩))
    (k : ∀ a' W' v', (∀ t, t < s → a'.eval (.tmp t) = a.eval (.tmp t)) → a'.tmps.size = a.tmps.size → a'.defers = a.defers → BSt w T name args W' v' (xs ++ [recM fname ys]) → last.wp Tryz.prog (bodyPost Tryz.prog fn R) a' W') :
    (Code.seq (.region r (callOps pos T j s F FT fname).toArray true) last).wp Tryz.prog (bodyPost Tryz.prog fn R) a W := by
  have hQ : ∀ (n : Option Tmp) (v : Value) c (a : Act) (w : World), (Exit.then (last.wp Tryz.prog (bodyPost Tryz.prog fn R)) (bodyPost Tryz.prog fn R)) (.panic c) (a.put n v) w → (Exit.then (last.wp Tryz.prog (bodyPost Tryz.prog fn R)) (bodyPost Tryz.prog fn R)) (.panic c) a w := fun n v c a w h => by cases n <;> exact h
  have h0q : (callOps pos T j s F FT fname).toArray[0]? = some (mkO pos (some s) (.fieldAddr 43 (.tmp 5) 7) 0 []) := rfl
  have h1q : (callOps pos T j s F FT fname).toArray[1]? = some (mkO pos (some (s + 1)) (.load 41 (.tmp s)) 41 [⟨0, .data⟩]) := rfl
  have h2q : (callOps pos T j s F FT fname).toArray[2]? = some (mkO pos (some (s + 2)) (.fieldAddr T (.tmp 3) j) 0 []) := rfl
  have h3q : (callOps pos T j s F FT fname).toArray[3]? = some (mkO pos (some (s + 3)) (.load FT (.tmp (s + 2))) FT [⟨2, .data⟩]) := rfl
  have h4q : (callOps pos T j s F FT fname).toArray[4]? = some (mkO pos (some (s + 4)) (.call { callee := .value (.func F), args := #[.const (.string fname), .tmp (s + 3)], argTypes := #[9, FT] }) 43 [⟨3, .data⟩]) := rfl
  have h5q : (callOps pos T j s F FT fname).toArray[5]? = some (mkO pos (some (s + 5)) (.buildSlice 41 1 #[(0, .tmp (s + 4))]) 41 [⟨4, .data⟩]) := rfl
  have h6q : (callOps pos T j s F FT fname).toArray[6]? = some (mkO pos (some (s + 6)) (.call { callee := .builtin .append, args := #[.tmp (s + 1), .tmp (s + 5)], argTypes := #[41, 41] }) 41 [⟨1, .data⟩, ⟨5, .data⟩, ⟨4, .chain⟩]) := rfl
  have h7q : (callOps pos T j s F FT fname).toArray[7]? = some (mkO pos (some (s + 7)) (.fieldAddr 43 (.tmp 5) 7) 0 (ph 7)) := rfl
  have h8q : (callOps pos T j s F FT fname).toArray[8]? = some (mkO pos none (.store 41 (.tmp (s + 7)) (.tmp (s + 6))) 0 (⟨7, .data⟩ :: ⟨6, .data⟩ :: ⟨6, .chain⟩ :: ph 7)) := rfl
  have hsz9 : (callOps pos T j s F FT fname).toArray.size = 9 := rfl
  generalize (callOps pos T j s F FT fname).toArray = ops at *
  refine wp_seq ?_
  refine start_ (n := 9) (S := fun w' => BSt w T name args w' v xs) (ds := [6, 7, 8]) #[false, false, false, false, false, false, false, false, false] (by kernel_rfl) hsz9 rfl (hB.below (below_drew (Below.refl _ _))) (fun hS0 => ?_)
  generalize W.drew = W0 at hS0 ⊢
  clear hB
  refine pure_ (i := 0) (N := some s) (v := .pointer (some ⟨w.heap.size + 2, 7, none⟩)) #[true, false, false, false, false, false, false, false, false] h0q rfl (any_of hT (by kernel_rfl)) (hQ _ _) (Or.inl ⟨rfl, fun w' => o_addr7 _ _ _ _ _ _ _ h5⟩) rfl ?_
  refine pure_ (i := 2) (N := some (s + 2)) (v := .pointer (some ⟨w.heap.size, off, none⟩)) #[true, false, true, false, false, false, false, false, false] h2q rfl (any_of hT (by kernel_rfl)) (hQ _ _) (Or.inl ⟨rfl, fun w' => o_addrO _ _ _ _ _ _ _ off (cs.length - 1) _ _ (by rw [ev_other (by omega)]; exact h3) fs hu f hj ho (by rw [hft, hi]; congr 1; omega)⟩) rfl ?_
  refine take_ (i := 1) (N := some (s + 1)) (v := v) #[true, true, true, false, false, false, false, false, false] h1q rfl (take_of hT (by kernel_rfl)) (hQ _ _) (Or.inl ⟨rfl, fun w' hS => o_load41 _ (w.heap.size + 2) _ _ _ _ 7 v _ (by rw [ev_other (by omega), ev_same (by omega)]) ((blk_cell hS.2.2.2.1 7).trans rfl)⟩) hS0 rfl ?_
  refine take_ (i := 3) (N := some (s + 3)) (v := .agg cs.toArray) #[true, true, true, true, false, false, false, false, false] h3q rfl (take_of hT (by kernel_rfl)) (hQ _ _) (Or.inl ⟨rfl, fun w' hS => o_loadR _ w.heap.size off _ _ _ _ _ cs _ (by rw [ev_other (by omega), ev_same (by simp only [size_put]; omega)]) (fun i u hi => (blk_cell hS.2.1 (off + i)).trans (hargs i u hi)) d hd hdr hi⟩) hS0 rfl ?_
  refine one_ (i := 4) (N := some (s + 4)) #[true, true, true, true, true, false, false, false, false] h4q rfl (one_of hT (by kernel_rfl)) (by decide) (fun K hK => ?_)
  refine goes_ hF hFn hFb #[.string fname, .agg cs.toArray] rfl rfl rfl ?_ ?_
  · simp only [List.map_toArray, List.map_cons, List.map_nil, Act.eval.eq_2]
    rw [ev_same (by simp only [size_put]; omega)]
  refine (hcall W0).mono ?_
  rintro e W1 ⟨A, c, rfl, hl, hF1, hBl⟩
  refine ⟨_, rfl, ?_⟩
  have hS1 := hS0.below hBl
  have hSz := hBl.size
  have hOwn := Kd.N_lt hS0.1
  have hFK := k43_mkF W1 _ (recM fname ys) hl hF1
  refine hK.out _ _ hS1 (fun _ => ?_)
  clear hK K hF1
  refine one_ (i := 5) (N := some (s + 5)) #[true, true, true, true, true, true, false, false, false] h5q rfl (one_of hT (by kernel_rfl)) (by decide) (fun K hK => ?_)
  refine op_value rfl rfl (o_slice _ _ _ _ _ _ _ _ _ _ _ _ _ _ (ev_same (by simp only [size_put]; omega))) ?_
  refine hK.out _ _ (hS1.below (below_alloc (Below.refl _ _) _)) (fun _ => ?_)
  clear hK K
  refine last_ (i := 6) (N := some (s + 6)) #[true, true, true, true, true, true, true, false, false] h6q rfl (one_of hT (by kernel_rfl)) (by decide) (fun K hK => ?_)
  have hlt := blk_lt hS0.2.2.2.1
  refine Kd.N_append_step k43 (w0 := w) w.heap.size rfl (.tmp (s + 1)) (.tmp (s + 5)) 41 43 (.agg #[.string ⟨#[]⟩, .int .i64 0, .bool false, .int .i64 0, .int .u64 0, .float .f64 0, .string ⟨#[]⟩, .slice none 0 0]) 96 rfl Tryz.underlying41 info43 rfl (by decide) (by decide) v xs (recM fname ys) [.string fname, .int .i64 8, .bool false, .int .i64 0, .int .u64 0, .float .f64 0, .string ⟨#[]⟩, .slice A ys.length c] (fun k => w.heap.size + 3 ≤ k) (fun k => W0.heap.size ≤ k) ?_ ?_ hFK (fun k hk => ⟨by omega, fun he => by have := hOwn k he.symm; omega⟩) (fun k hk => by omega) hS1.1 hS1.2.2.2.2 hS1.2.2.2.2.size (by omega) ?_
  · try simp only [mkO]
    rw [ev_other (by omega), ev_other (by omega), ev_other (by omega), ev_same (by simp only [size_put]; omega)]
  · try simp only [mkO]
    rw [ev_same (by simp only [size_put]; omega)]
  intro v1 w1 ho' hb hg hat
  have hne : ∀ g, g < w.heap.size + 3 → some g ≠ v.ownBlock := fun g hg he => by have := hS1.1.1 g he.symm; omega
  have b0 := blk_grown hS1.2.1 hg (hne _ (by omega))
  have b1 := blk_grown hS1.2.2.1 hg (hne _ (by omega))
  have b2 := blk_grown hS1.2.2.2.1 hg (hne _ (by omega))
  obtain ⟨A1, c1, rfl⟩ := Kd.N_slice ho'
  refine hK.out _ _ ?_
  clear hK K
  change wpAnyLast _ _ _ _ _ _ _ _ (Act.put _ (some (s + 6)) _) _
  refine pure_ (i := 7) (N := some (s + 7)) (v := .pointer (some ⟨w.heap.size + 2, 7, none⟩)) #[true, true, true, true, true, true, true, true, false] h7q rfl (any_of hT (by kernel_rfl)) (hQ _ _) (Or.inl ⟨rfl, fun w' => o_addr7 _ _ _ _ _ _ _ ?_⟩) rfl ?_
  · try simp only [mkO]
    rw [ev_other (by omega), ev_other (by omega), ev_other (by omega), ev_other (by omega), ev_other (by omega), ev_other (by omega), ev_other (by omega)]
    exact h5
  refine last_skip (i := 8) (fuel := 0) (w1 := w1.setCell ⟨w.heap.size + 2, 7, none⟩ (.slice A1 (xs ++ [recM fname ys]).length c1)) #[true, true, true, true, true, true, true, true, true] h8q rfl rfl (one_of hT (by kernel_rfl)) (by decide) ?_ ?_
  · refine (o_store41 _ (w.heap.size + 2) w1 pos (s + 7) (s + 6) A1 (xs ++ [recM fname ys]).length c1 (⟨7, .data⟩ :: ⟨6, .data⟩ :: ⟨6, .chain⟩ :: ph 7) ?_ ?_ v ((blk_cell b2 7).trans rfl) (blk_frozen b2 7))
    · rw [ev_same (by simp only [size_put]; omega)]
    · rw [ev_other (by omega), ev_same (by simp only [size_put]; omega)]
  have hrd : (Region.ready .any ops #[true, true, true, true, true, true, true, true, true] == []) = true := done_of hT (by kernel_rfl)
  refine done_ hrd ?_
  show last.wp Tryz.prog (bodyPost Tryz.prog fn R) _ _
  refine k _ _ (.slice A1 (xs ++ [recM fname ys]).length c1) ?_ ?_ ?_ ⟨?_, ?_, ?_, ?_, ?_⟩
  · intro t ht
    rw [ev_other (by omega), ev_other (by omega), ev_other (by omega), ev_other (by omega), ev_other (by omega), ev_other (by omega), ev_other (by omega), ev_other (by omega)]
  · simp only [size_put]
  · simp only [defers_put]
  · exact Kd.N_far ho' (fun k hk => by show k ≠ w.heap.size + 2; omega) _
  · exact (Below.heap_setCell _ _ _ _ (by show w.heap.size ≠ w.heap.size + 2; omega)).trans b0
  · exact (Below.heap_setCell _ _ _ _ (by show w.heap.size + 1 ≠ w.heap.size + 2; omega)).trans b1
  · exact blk_put b2 7 _ rfl
  · exact below_set hb (by omega)
end Go.Proofs.YtfcalbjebomgcaaGreatDoor.X

/- The builders of xfs's structs out of a slice of numbers, by one law over their shape. -/
namespace Go.Proofs.YtfcalbjebomgcaaGreatDoor.X
open Go.RowKit Go.Proofs.YtfcalbjebomgcaaGreatDoorW.PrintWords Go.Proofs.YtfcalbjebomgcaaGreatDoorW.PrintLast Go.Proofs.YtfcalbjebomgcaaGreatDoorW.PrintMore Go.Proofs.YtfcalbjebomgcaaGreatDoor.Q
attribute [local go_sem] run_store_float

def stT (wide : Bool) : TypeId := if wide then 28 else 149
def ftT (wide : Bool) : TypeId := if wide then 35 else 66
def encI (wide : Bool) (n : Int) : Value := .int (if wide then .u64 else .u32) n
theorem encI_one (wide : Bool) (n : Int) : (encI wide n).oneCell' = true := rfl

/-- The reads of a builder: three operations a number. -/
def readOps (p : String) (wide : Bool) : Nat → Nat → List Oper
  | 0, _ => []
  | k + 1, j => mkO p (some (11 + 3 * j)) (.move (.tmp 0)) (stT wide) [] :: mkO p (some (12 + 3 * j)) (.indexAddr (stT wide) (.tmp (11 + 3 * j)) (.const (.int .i64 j))) 0 [⟨3 * j, .data⟩] :: mkO p (some (13 + 3 * j)) (.load (ftT wide) (.tmp (12 + 3 * j))) (ftT wide) [⟨3 * j + 1, .data⟩] :: readOps p wide k (j + 1)
theorem readOps_len (p : String) (wide : Bool) : ∀ k j, (readOps p wide k j).length = 3 * k
  | 0, _ => rfl
  | k + 1, j => by simp only [readOps, List.length_cons, readOps_len p wide k (j + 1)]; omega

theorem still_value {P : Program} {ops : Array Oper} {W : World} {Q : Act → Prop} {o : Oper} {rest : List Oper} {a : Act} {v : Value} (hg : o.guard = none)
    (hrun : (execOp a.eval o).run P W = .ok (.value v) W) (h : wpStill P ops W Q rest (a.put o.dst v)) : wpStill P ops W Q (o :: rest) a := by
  refine wpStill_step (fun K hK => ?_)
  rw [if_pos (by unfold Region.wanted; rw [hg])]
  unfold Oper.still
  rw [hrun, Oper.stillUpon_value]
  exact hK _ h

theorem o_index (wide : Bool) (a : Act) (W : World) (pos : String) (s t g n j : Nat) (af : List Edge) (h : a.eval (.tmp t) = .slice (some ⟨g, 0, none⟩) n n) (hj : j < n) (hn : n ≤ 1000) :
  (execOp a.eval (mkO pos (some s) (.indexAddr (stT wide) (.tmp t) (.const (.int .i64 j))) 0 af)).run Tryz.prog W = .ok (.value (.pointer (some ⟨g, j, none⟩))) W := by
  have h1 := Tryz.underlying28
  have h2 := Tryz.underlying149
  have i1 : (Tryz.prog.info? 35).map (·.size) = some 1 := by kernel_rfl
  have i2 : (Tryz.prog.info? 66).map (·.size) = some 1 := by kernel_rfl
  cases wide
  · simp only [execOp, mkO, h, stT]
    go_simp
  · simp only [execOp, mkO, h, stT]
    go_simp

theorem o_loadF (wide : Bool) (a : Act) (b : Nat) (W : World) (pos : String) (s t j : Nat) (v : Value) (af : List Edge) (h5 : a.eval (.tmp t) = .pointer (some ⟨b, j, none⟩)) (hc : W.cell? ⟨b, j, none⟩ = some v) :
  (execOp a.eval (mkO pos (some s) (.load (ftT wide) (.tmp t)) (ftT wide) af)).run Tryz.prog W = .ok (.value v) W := by
  cases wide
  · exact o_load66 a b W pos s t j v af h5 hc
  · exact o_load35 a b W pos s t j v af h5 hc

set_option maxRecDepth 100000 in
/-- The reads, one by one. -/
theorem reads_still (p : String) (wide : Bool) (ops : Array Oper) (W : World) (Q : Act → Prop) (rest : List Oper) (vals : List Int) (n g : Nat) (e : TypeId) (hn : n ≤ 1000) (hv : vals.length = n)
    (hg : W.heap[g]? = some (.cells (vals.map (encI wide)).toArray e (0, 0))) : ∀ (k j : Nat) (a : Act), j + k = n → 12 + 3 * n ≤ a.tmps.size → a.eval (.tmp 0) = .slice (some ⟨g, 0, none⟩) n n →
    (∀ i, i < j → a.eval (.tmp (13 + 3 * i)) = encI wide (vals.getD i 0)) →
    (∀ a' : Act, a'.tmps.size = a.tmps.size → a'.defers = a.defers → a'.eval (.tmp 2) = a.eval (.tmp 2) → (∀ i, i < n → a'.eval (.tmp (13 + 3 * i)) = encI wide (vals.getD i 0)) → wpStill Tryz.prog ops W Q rest a') →
    wpStill Tryz.prog ops W Q (readOps p wide k j ++ rest) a
  | 0, j, a, hj, _, _, h, K => by
    have hK := K a (Eq.refl _) (Eq.refl _) (Eq.refl _) (fun i hi => h i (Nat.lt_of_lt_of_eq hi (by rw [← hj, Nat.add_zero])))
    simp only [readOps, List.nil_append]
    with_reducible exact hK
  | k + 1, j, a, hj, hs, h0, h, K => by
    have hc : W.cell? ⟨g, j, none⟩ = some (encI wide (vals.getD j 0)) := by
      rw [blk_cell hg]
      simp [show j < vals.length by omega]
    simp only [readOps, List.cons_append]
    refine still_value rfl (o_move _ _ _ _ _ _ _ _ h0) ?_
    refine still_value rfl (o_index wide _ _ _ _ _ g n j _ (by simp only [mkO]; rw [ev_same (by omega)]) (by omega) hn) ?_
    refine still_value rfl (o_loadF wide _ g _ _ _ _ j _ _ (by simp only [mkO]; rw [ev_same (by simp only [size_put]; omega)]) hc) ?_
    refine reads_still p wide ops W Q rest vals n g e hn hv hg k (j + 1) _ (by omega) (by simp only [mkO, size_put]; exact hs) ?_ ?_ ?_
    · simp only [mkO]; rw [ev_other (by omega), ev_other (by omega), ev_other (by omega)]; exact h0
    · intro i hi
      by_cases hij : i = j
      · subst hij
        simp only [mkO]; rw [ev_same (by simp only [size_put]; omega)]
      · simp only [mkO]; rw [ev_other (by omega), ev_other (by omega), ev_other (by omega)]; exact h i (by omega)
    · intro a' h1 h2 h3 h4
      refine K a' (by rw [h1]; simp only [mkO, size_put]) (by rw [h2]; simp only [mkO, defers_put]) ?_ h4
      rw [h3]; simp only [mkO]; rw [ev_other (by omega), ev_other (by omega), ev_other (by omega)]
end Go.Proofs.YtfcalbjebomgcaaGreatDoor.X

/- A builder of one of xfs's structs: the law of its whole function over its shape. -/
namespace Go.Proofs.YtfcalbjebomgcaaGreatDoor.X
open Go.RowKit Go.Proofs.YtfcalbjebomgcaaGreatDoorW.PrintWords Go.Proofs.YtfcalbjebomgcaaGreatDoorW.PrintLast Go.Proofs.YtfcalbjebomgcaaGreatDoorW.PrintMore Go.Proofs.YtfcalbjebomgcaaGreatDoor.Q
attribute [local go_sem] run_store_float

theorem o_allocT (a : Act) (W : World) (pos : String) (s : Nat) (T : TypeId) (zs : Array Value) (n b : Nat) (af : List Edge) (hi : (Tryz.prog.info? T).map (fun i => (i.zero, i.size, i.bytes)) = some (some (.agg zs), n, b)) :
  (execOp a.eval (mkO pos (some s) (.alloc T) 0 af)).run Tryz.prog W = .ok (.value (.pointer (some ⟨W.heap.size, 0, none⟩))) (W.alloc (.cells zs T)) := by
  have hz : (zeroValue T).run Tryz.prog W = .ok (.agg zs) W := by
    cases hq : Tryz.prog.info? T with
    | none => simp [hq] at hi
    | some i =>
      have h1 : i.zero = some (.agg zs) := by simp [hq] at hi; exact hi.1
      simp [zeroValue, typeInfo, hq, h1, Sem.run_bind]
  simp only [execOp, mkO]
  go_simp
theorem o_nil (a : Act) (W : World) (pos : String) (s : Nat) (v : Value) (ty : TypeId) (af : List Edge) :
  (execOp a.eval (mkO pos (some s) (.assign (.const v)) ty af)).run Tryz.prog W = .ok (.value v) W := by
  simp only [execOp, mkO, Act.eval]
  go_simp
theorem o_assign (a : Act) (W : World) (pos : String) (s t ty : Nat) (v : Value) (af : List Edge) (h : a.eval (.tmp t) = v) :
  (execOp a.eval (mkO pos (some s) (.assign (.tmp t)) ty af)).run Tryz.prog W = .ok (.value v) W := by
  simp only [execOp, mkO, h]
  go_simp
theorem o_len (a : Act) (W : World) (pos : String) (s t st e : Nat) (A : Option Addr) (n c : Nat) (af : List Edge) (hu : Tryz.prog.underlying st = some (.slice e)) (h : a.eval (.tmp t) = .slice A n c) :
  (execOp a.eval (mkO pos (some s) (.call { callee := .builtin .len, args := #[.tmp t], argTypes := #[st] }) 3 af)).run Tryz.prog W = .ok (.value (.int .i64 n)) W := by
  have h' : a.tmps[t]?.getD undef = .slice A n c := by simpa [Act.eval] using h
  simp only [execOp, mkO]
  go_simp
/-- The test of the length: '!=' or '<'. -/
def tst (lt : Bool) : BinOp := if lt then .lss else .neq
theorem o_test (lt : Bool) (a : Act) (W : World) (pos : String) (s t m : Nat) (af : List Edge) (h : a.eval (.tmp t) = .int .i64 m) :
  (execOp a.eval (mkO pos (some s) (.binOp (tst lt) 3 (.tmp t) (.const (.int .i64 m)) 3) 4 af)).run Tryz.prog W = .ok (.value (.bool false)) W := by
  have hu := Tryz.underlying3
  have h' : a.tmps[t]?.getD undef = .int .i64 m := by simpa [Act.eval] using h
  cases lt
  · simp only [execOp, mkO, tst]
    go_simp
    try simp
  · simp only [execOp, mkO, tst]
    go_simp
    try simp
theorem o_buildT (a : Act) (W : World) (pos : String) (s : Nat) (T : TypeId) (parts : List (Nat × Operand)) (cells : Array Value) (af : List Edge) (h : Tryz.prog.built T (parts.map fun (i, x) => (i, a.eval x)) = some cells) :
  (execOp a.eval (mkO pos (some s) (.build T parts.toArray) T af)).run Tryz.prog W = .ok (.value (.agg cells)) W := by
  have h2 : (parts.toArray.map fun (i, x) => (i, a.eval x)).toList = parts.map fun (i, x) => (i, a.eval x) := by simp
  unfold execOp
  simp only [mkO, Sem.run_bind, run_build W T (parts.toArray.map fun (i, x) => (i, a.eval x)) cells (by rw [h2]; exact h)]
  rfl
theorem o_storeT (a : Act) (W : World) (pos : String) (p t : Nat) (T ty : TypeId) (g : Nat) (old cells : Array Value) (af : List Edge) (hx : a.eval (.tmp p) = .pointer (some ⟨g, 0, none⟩)) (hy : a.eval (.tmp t) = .agg cells)
    (hg : W.heap[g]? = some (.cells old ty (0, 0))) (hi : (Tryz.prog.info? T).map (·.size) = some cells.size) (hold : old.size = cells.size) (h1 : cells.all (·.oneCell') = true) :
  (execOp a.eval (mkO pos none (.store T (.tmp p) (.tmp t)) 0 af)).run Tryz.prog W = .ok .skip (W.setRow g cells) := by
  unfold execOp
  simp only [mkO, hx, hy, Instr.storeAt, Instr.sureAddr, Sem.run_bind, Sem.run_pure, Result.andThen_ok, run_storeVar_row W g ty T old cells hg hi hold h1]

def tailOps (p : String) (wide : Bool) (T : TypeId) (n : Nat) : List Oper :=
  [mkO p none (.store T (.tmp 2) (.tmp (11 + 3 * n))) 0 (⟨3 * n, .data⟩ :: ph (3 * n + 1)),
   mkO p (some 3) (.assign (.const .nilIface)) 59 (⟨3 * n + 1, .chain⟩ :: ph (3 * n + 2))]
def headOps (p : String) (wide : Bool) (T : TypeId) (n : Nat) : List Oper :=
  readOps p wide n 0 ++ [mkO p (some (11 + 3 * n)) (.build T ((List.range n).map (fun i => (i, Operand.tmp (13 + 3 * i)))).toArray) T ((List.range n).map (fun i => ⟨3 * i + 2, .data⟩))]
def errC (T : TypeId) (p2 : String) (msg : ByteArray) : Code :=
  .seq (.region 3 #[mkO p2 (some 9) (.build T #[]) T [], mkO p2 (some 10) (.call { callee := .value (.func 118), args := #[.const (.string msg)], argTypes := #[9] }) 59 [],
     mkO p2 none (.store T (.tmp 2) (.tmp 9)) 0 [⟨0, .data⟩, ⟨1, .chain⟩, ⟨0, .phase⟩, ⟨1, .textOnly .lateStoresUnsure⟩],
     mkO p2 (some 3) (.assign (.tmp 10)) 59 [⟨1, .data⟩, ⟨2, .chain⟩, ⟨0, .phase⟩, ⟨1, .phase⟩, ⟨2, .phase⟩]] false) .ret
/-- The body of a builder of n numbers. -/
def pbCode (lt wide : Bool) (T : TypeId) (n : Nat) (p0 p1 p2 p3 : String) (msg : ByteArray) : Code :=
  .seq (.region 0 #[mkO p0 (some 2) (.alloc T) 0 [], mkO p0 (some 3) (.assign (.const .nilIface)) 59 []] false)
    (.seq (.seq (.region 1 #[mkO p1 (some 5) (.move (.tmp 0)) (stT wide) [], mkO p1 (some 6) (.call { callee := .builtin .len, args := #[.tmp 5], argTypes := #[stT wide] }) 3 [⟨0, .data⟩], mkO p1 (some 4) (.assign (.tmp 6)) 3 [⟨1, .data⟩, ⟨0, .phase⟩, ⟨1, .phase⟩]] false)
        (.seq (.region 2 #[mkO p1 (some 7) (.move (.tmp 4)) 3 [], mkO p1 (some 8) (.binOp (tst lt) 3 (.tmp 7) (.const (.int .i64 n)) 3) 4 [⟨0, .data⟩]] false)
          (.cond (.tmp 8) (errC T p2 msg) .skip)))
      (.seq (.region 4 (headOps p3 wide T n ++ tailOps p3 wide T n).toArray (decide (1 < n))) .ret))
theorem wpList_of_still {P : Program} {ops : Array Oper} {w : World} {Q : Exit → Act → World → Prop} {rest : List Oper} : ∀ (l : List Oper) (a : Act), wpStill P ops w (fun a' => wpList P ops Q rest a' w) l a → wpList P ops Q (l ++ rest) a w
  | [], _, h => h
  | o :: l, a, h => by
    rw [List.cons_append]
    unfold wpStill at h
    unfold wpList
    split
    · rename_i hw
      rw [if_pos hw] at h
      exact .inl (Oper.wp_of_still (fun a' h' => wpList_of_still l a' h') h)
    · rename_i hw
      rw [if_neg hw] at h
      exact wpList_of_still l _ h
theorem st_slice (wide : Bool) : Tryz.prog.underlying (stT wide) = some (.slice (ftT wide)) := by
  cases wide
  · exact Tryz.underlying149
  · exact Tryz.underlying28
set_option maxRecDepth 100000 in
set_option maxHeartbeats 2000000 in
/-- What a builder does: it hands back the struct of the numbers, and no error. -/
theorem pb_calls (lt wide : Bool) (T : TypeId) (n bt : Nat) (p0 p1 p2 p3 : String) (msg : ByteArray) (fs : Array Field) (zs : List Int) (F : FuncId) (fn : Func) (hF : Tryz.prog.funcs[F]? = some fn) (hb : fn.body = some (pbCode lt wide T n p0 p1 p2 p3 msg)) (hres : fn.results = #[.cell 2 T, .tmp 3]) (hnt : 12 + 3 * n ≤ fn.ntmps) (hn : 0 < n) (hn2 : n ≤ 1000)
    (hi : (Tryz.prog.info? T).map (fun i => (i.zero, i.size, i.bytes)) = some (some (.agg (zs.map (encI wide)).toArray), n, bt)) (hz : zs.length = n) (hu : Tryz.prog.underlying T = some (.struct fs))
    (hbl : ∀ g : Nat → Int, Tryz.prog.built T ((List.range n).map (fun i => (i, encI wide (g i)))) = some ((List.range n).map (fun i => encI wide (g i))).toArray)
    (htail : decide (1 < n) = true → Region.lexTailB .any (headOps p3 wide T n ++ tailOps p3 wide T n).toArray (3 * n + 1) = true)
    (vals : List Int) (hv : vals.length = n) (g : Nat) (e : TypeId) (w : World) (hg : w.heap[g]? = some (.cells (vals.map (encI wide)).toArray e (0, 0))) :
    Calls Tryz.prog F #[.slice (some ⟨g, 0, none⟩) n n] w fun e w' => e = .returned (.tuple #[.agg (vals.map (encI wide)).toArray, .nilIface]) ∧ Below w.heap.size w w' := by
  have hsz1 : (Tryz.prog.info? T).map (·.size) = some (vals.map (encI wide)).toArray.size := by
    cases hq : Tryz.prog.info? T with
    | none => simp [hq] at hi
    | some i => simp [hq] at hi ⊢; omega
  refine calls_of_wp hF hb ?_
  obtain ⟨a, ha⟩ : ∃ a : Act, a = { tmps := #[.slice (some ⟨g, 0, none⟩) n n] ++ Array.replicate (fn.ntmps - (#[.slice (some ⟨g, 0, none⟩) n n] : Array Value).size) undef, defers := [] } := ⟨_, rfl⟩
  rw [← ha]
  have e0 : a.eval (.tmp 0) = .slice (some ⟨g, 0, none⟩) n n := by rw [ha]; simp only [Act.eval, Array.getD_eq_getD_getElem?]; rw [Array.getElem?_append_left (by simp)]; rfl
  have hd : a.defers = [] := by rw [ha]
  have hsz : a.tmps.size = fn.ntmps := by rw [ha]; simp; omega
  clear ha
  have hs9 : 15 ≤ a.tmps.size := by omega
  refine wp_seq (wp_region_lit (l := [mkO p0 (some 2) (.alloc T) 0 [], mkO p0 (some 3) (.assign (.const .nilIface)) 59 []]) ?_)
  refine Kd.event_run rfl (o_allocT _ _ _ _ _ _ n bt _ hi) ?_
  refine Kd.event_run rfl (o_nil _ _ _ _ _ _ _) ?_
  refine wp_seq (wp_seq (wp_region_lit (l := [mkO p1 (some 5) (.move (.tmp 0)) (stT wide) [], mkO p1 (some 6) (.call { callee := .builtin .len, args := #[.tmp 5], argTypes := #[stT wide] }) 3 [⟨0, .data⟩], mkO p1 (some 4) (.assign (.tmp 6)) 3 [⟨1, .data⟩, ⟨0, .phase⟩, ⟨1, .phase⟩]]) ?_))
  refine Kd.event_run rfl (o_move _ _ _ _ _ _ (.slice (some ⟨g, 0, none⟩) n n) _ (by simp only [mkO]; rw [ev_other (by omega), ev_other (by omega)]; exact e0)) ?_
  refine Kd.event_run rfl (o_len _ _ _ _ _ _ (ftT wide) (some ⟨g, 0, none⟩) n n _ (st_slice wide) (by simp only [mkO]; rw [ev_same (by simp only [size_put]; omega)])) ?_
  refine Kd.event_run rfl (o_assign _ _ _ _ _ _ (.int .i64 n) _ (by simp only [mkO]; rw [ev_same (by simp only [size_put]; omega)])) ?_
  refine wp_seq (wp_region_lit (l := [mkO p1 (some 7) (.move (.tmp 4)) 3 [], mkO p1 (some 8) (.binOp (tst lt) 3 (.tmp 7) (.const (.int .i64 n)) 3) 4 [⟨0, .data⟩]]) ?_)
  refine Kd.event_run rfl (o_move _ _ _ _ _ _ (.int .i64 n) _ (by simp only [mkO]; rw [ev_same (by simp only [size_put]; omega)])) ?_
  refine Kd.event_run rfl (o_test lt _ _ _ _ _ n _ (by simp only [mkO]; rw [ev_same (by simp only [size_put]; omega)])) ?_
  refine wp_cond_false (by simp only [mkO]; rw [ev_same (by simp only [size_put]; omega)]) ?_
  refine wp_skip ?_
  have s1 : (w.alloc (.cells (zs.map (encI wide)).toArray T)).heap.size = w.heap.size + 1 := World.size_alloc _ _
  have b0 := blk_alloc hg (.cells (zs.map (encI wide)).toArray T)
  have b1 := blk_new w (.cells (zs.map (encI wide)).toArray T)
  have B := below_alloc (Below.refl w.heap.size w) (.cells (zs.map (encI wide)).toArray T)
  have hgl := blk_lt hg
  refine wp_seq ?_
  -- the reads, the struct, its store
  have core : ∀ (W : World), W.heap[g]? = some (.cells (vals.map (encI wide)).toArray e (0, 0)) → W.heap[w.heap.size]? = some (.cells (zs.map (encI wide)).toArray T (0, 0)) → Below w.heap.size w W → ∀ a0 : Act, a0.tmps.size = fn.ntmps → a0.defers = [] → a0.eval (.tmp 0) = .slice (some ⟨g, 0, none⟩) n n → a0.eval (.tmp 2) = .pointer (some ⟨w.heap.size, 0, none⟩) →
      wpStill Tryz.prog (headOps p3 wide T n ++ tailOps p3 wide T n).toArray W (fun a' => wpList Tryz.prog (headOps p3 wide T n ++ tailOps p3 wide T n).toArray (Exit.then (Code.ret.wp Tryz.prog (bodyPost Tryz.prog fn (fun e w' => e = .returned (.tuple #[.agg (vals.map (encI wide)).toArray, .nilIface]) ∧ Below w.heap.size w w'))) (bodyPost Tryz.prog fn (fun e w' => e = .returned (.tuple #[.agg (vals.map (encI wide)).toArray, .nilIface]) ∧ Below w.heap.size w w'))) (tailOps p3 wide T n) a' W) (headOps p3 wide T n) a0 := by
    intro W hgW hbW hB a0 hs0 hd0 h00 h02
    refine reads_still p3 wide _ W _ _ vals n g e hn2 hv hgW n 0 a0 (by omega) (by omega) h00 (fun i hi => absurd hi (Nat.not_lt_zero i)) ?_
    intro a' k1 k2 k3 k4
    have hlist : ((List.range n).map (fun i => (i, Operand.tmp (13 + 3 * i)))).map (fun x : Nat × Operand => (x.1, a'.eval x.2)) = (List.range n).map (fun i => (i, encI wide (vals.getD i 0))) := by
      rw [List.map_map]
      refine List.map_congr_left (fun i hi => ?_)
      simp only [Function.comp]
      rw [k4 i (List.mem_range.1 hi)]
    have hvals : (List.range n).map (fun i => encI wide (vals.getD i 0)) = vals.map (encI wide) := by
      refine List.ext_getElem (by simp [hv]) (fun i h1 h2 => ?_)
      simp at h1 h2
      simp [h2]
    refine still_value rfl (o_buildT _ _ _ _ _ _ (vals.map (encI wide)).toArray _ (by rw [← hvals]; exact (congrArg (Tryz.prog.built T) hlist).trans (hbl _))) ?_
    refine wpStill_nil ?_
    refine event_skip rfl rfl (o_storeT _ _ _ _ _ T T w.heap.size (zs.map (encI wide)).toArray (vals.map (encI wide)).toArray _ (by simp only [mkO]; rw [ev_other (by omega), k3]; exact h02) (by simp only [mkO]; rw [ev_same (by omega)]) hbW hsz1 (by simp [hz, hv]) (by simp [encI_one])) ?_
    refine Kd.event_run rfl (o_nil _ _ _ _ _ _ _) ?_
    refine wpList_nil ?_
    refine wp_ret ?_
    have hb2 := setRow_heap W w.heap.size (zs.map (encI wide)).toArray (vals.map (encI wide)).toArray T (0, 0) hbW
    have fin : ∀ act : Act, act.eval (.tmp 2) = .pointer (some ⟨w.heap.size, 0, none⟩) → act.eval (.tmp 3) = .nilIface → act.defers = [] →
        bodyPost Tryz.prog fn (fun e w' => e = .returned (.tuple #[.agg (vals.map (encI wide)).toArray, .nilIface]) ∧ Below w.heap.size w w') .ret act (W.setRow w.heap.size (vals.map (encI wide)).toArray) := by
      intro act q2 q3 qd
      have q2' : act.tmps.getD 2 undef = .pointer (some ⟨w.heap.size, 0, none⟩) := by simpa [Act.eval] using q2
      have q3' : act.tmps.getD 3 undef = .nilIface := by simpa [Act.eval] using q3
      refine bodyPost_ret (results_ct hres _ _ w.heap.size T (vals.map (encI wide)).toArray (0, 0) _ q2' hb2 hu rfl hsz1) qd ⟨by rw [q3'], below_setRow hB (Nat.le_refl _) _⟩
    refine fin _ ?_ ?_ ?_
    · simp only [mkO]; rw [ev_other (by omega)]
      show (Act.put _ _ _).eval (.tmp 2) = _
      rw [ev_other (by omega), k3]; exact h02
    · simp only [mkO]; rw [ev_same (by simp only [size_put]; omega)]
    · simp only [mkO, defers_put]; rw [k2]; exact hd0
  have hsz2 : ((w.alloc (.cells (zs.map (encI wide)).toArray T))).heap.size = w.heap.size + 1 := s1
  have hlenh : (headOps p3 wide T n).length = 3 * n + 1 := by simp only [headOps, List.length_append, readOps_len, List.length_cons, List.length_nil]
  cases hone : decide (1 < n) with
  | true =>
    refine wp_region_still_tail (3 * n + 1) (by kernel_rfl) (htail hone) ?_
    rw [List.take_left' hlenh, List.drop_left' hlenh]
    refine core (w.alloc (.cells (zs.map (encI wide)).toArray T)).drew b0 b1 (below_drew B) _ ?_ ?_ ?_ ?_
    · simp only [mkO, size_put]; exact hsz
    · simp only [mkO, defers_put]; exact hd
    · simp only [mkO]; rw [ev_other (by omega), ev_other (by omega), ev_other (by omega), ev_other (by omega), ev_other (by omega), ev_other (by omega), ev_other (by omega)]; exact e0
    · simp only [mkO]; rw [ev_other (by omega), ev_other (by omega), ev_other (by omega), ev_other (by omega), ev_other (by omega), ev_other (by omega), ev_same (by omega)]
  | false =>
    refine wp_region_lit ?_
    refine wpList_of_still _ _ ?_
    refine core _ b0 b1 B _ ?_ ?_ ?_ ?_
    · simp only [mkO, size_put]; exact hsz
    · simp only [mkO, defers_put]; exact hd
    · simp only [mkO]; rw [ev_other (by omega), ev_other (by omega), ev_other (by omega), ev_other (by omega), ev_other (by omega), ev_other (by omega), ev_other (by omega)]; exact e0
    · simp only [mkO]; rw [ev_other (by omega), ev_other (by omega), ev_other (by omega), ev_other (by omega), ev_other (by omega), ev_other (by omega), ev_same (by omega)]
end Go.Proofs.YtfcalbjebomgcaaGreatDoor.X
