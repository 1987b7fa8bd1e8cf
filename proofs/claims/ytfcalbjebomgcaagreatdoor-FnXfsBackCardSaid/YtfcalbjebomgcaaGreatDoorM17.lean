/- Single operations of ParseStats, and its three recurring regions, by law. -/
import Derived.Test.YtfcalbjebomgcaaGreatDoorM16
set_option linter.unusedVariables false
set_option linter.unusedSimpArgs false
namespace Go.Proofs.YtfcalbjebomgcaaGreatDoor.X
open Go.RowKit Go.Proofs.YtfcalbjebomgcaaGreatDoorW.PrintWords Go.Proofs.YtfcalbjebomgcaaGreatDoorW.PrintLast Go.Proofs.YtfcalbjebomgcaaGreatDoorW.PrintMore Go.Proofs.YtfcalbjebomgcaaGreatDoor.Q

theorem ev_put {a : Act} {s t : Nat} {v : Value} (h : s < a.tmps.size) : (a.put (some s) v).eval (.tmp t) = if t = s then v else a.eval (.tmp t) := by
  by_cases e : t = s
  · subst e; rw [if_pos rfl, ev_same h]
  · rw [if_neg e, ev_other e]
theorem ev_none {a : Act} {o : Operand} {v : Value} : (a.put none v).eval o = a.eval o := rfl
theorem ev_const {a : Act} {v : Value} : a.eval (.const v) = v := rfl
theorem ev_func {a : Act} {f : FuncId} : a.eval (.func f) = .func (.func f) #[] #[] := rfl

theorem o_cut (a : Act) (W : World) (pos : String) (s t g k : Nat) (af : List Edge) (h : a.eval (.tmp t) = .slice (some ⟨g, 0, none⟩) (k + 1) (k + 1)) (hk : k ≤ 1000) (hk0 : 0 < k) :
  (execOp a.eval (mkO pos (some s) (.slice 29 (.tmp t) (some (.const (.int .i64 1))) none none) 29 af)).run Tryz.prog W = .ok (.value (.slice (some ⟨g, 1, none⟩) k k)) W := by
  have hu := Tryz.underlying29
  have hi : (Tryz.prog.info? 9).map (fun i => (i.zero, i.size, i.bytes)) = some (some (.string ⟨#[]⟩), 1, 16) := by kernel_rfl
  have h' : a.tmps[t]?.getD undef = .slice (some ⟨g, 0, none⟩) (k + 1) (k + 1) := by simpa [Act.eval] using h
  simp only [execOp, mkO]
  go_simp
  rw [if_pos (by omega), if_neg (by omega)]
theorem o_extract (a : Act) (W : World) (pos : String) (s t i ty : Nat) (vs : Array Value) (v : Value) (af : List Edge) (h : a.eval (.tmp t) = .tuple vs) (hv : vs[i]? = some v) :
  (execOp a.eval (mkO pos (some s) (.extract (.tmp t) i) ty af)).run Tryz.prog W = .ok (.value v) W := by
  simp only [execOp, mkO, h]
  go_simp
theorem o_nonil (a : Act) (W : World) (pos : String) (s t : Nat) (af : List Edge) (h : a.eval (.tmp t) = .nilIface) :
  (execOp a.eval (mkO pos (some s) (.binOp .neq 59 (.tmp t) (.const .nilIface) 59) 4 af)).run Tryz.prog W = .ok (.value (.bool false)) W := by
  have hu := Tryz.underlying59
  have h' : a.tmps[t]?.getD undef = .nilIface := by simpa [Act.eval] using h
  simp only [execOp, mkO]
  go_simp
theorem o_eqs (a : Act) (W : World) (pos : String) (s t : Nat) (x y : ByteArray) (af : List Edge) (h : a.eval (.tmp t) = .string x) :
  (execOp a.eval (mkO pos (some s) (.binOp .eql 9 (.tmp t) (.const (.string y)) 9) 4 af)).run Tryz.prog W = .ok (.value (.bool (x.toList == y.toList))) W := by
  have hu := Tryz.underlying9
  have h' : a.tmps[t]?.getD undef = .string x := by simpa [Act.eval] using h
  simp only [execOp, mkO]
  go_simp

theorem o_storeAt (a : Act) (W : World) (pos : String) (p t : Nat) (T ty : TypeId) (g off : Nat) (old cells : Array Value) (af : List Edge) (hx : a.eval (.tmp p) = .pointer (some ⟨g, off, none⟩)) (hy : a.eval (.tmp t) = .agg cells)
    (hg : W.heap[g]? = some (.cells old ty (0, 0))) (hi : (Tryz.prog.info? T).map (·.size) = some cells.size) (hold : off + cells.size ≤ old.size) (h1 : ∀ v ∈ cells.toList, v.oneCell' = true) :
  (execOp a.eval (mkO pos none (.store T (.tmp p) (.tmp t)) 0 af)).run Tryz.prog W = .ok .skip (W.setRow g (old.toList.take off ++ cells.toList ++ old.toList.drop (off + cells.size)).toArray) := by
  have hc := run_storeCells_at Tryz.prog g off ty cells.toList 0 old W hg (by simpa using hold) h1
  have hv : (storeVar T ⟨g, off, none⟩ (.agg cells)).run Tryz.prog W = .ok () (W.setRow g (old.toList.take off ++ cells.toList ++ old.toList.drop (off + cells.size)).toArray) := by
    cases hq : Tryz.prog.info? T with
    | none => simp [hq] at hi
    | some i =>
      have hs : cells.size = i.size := by simp [hq] at hi; omega
      simp only [Nat.add_zero] at hc
      simp [storeVar, sizeOf, typeInfo, hq, Value.cells, hs] at hc ⊢
      exact hc
  unfold execOp
  simp only [mkO, hx, hy, Instr.storeAt, Instr.sureAddr, Sem.run_bind, Sem.run_pure, Result.andThen_ok, hv]

def pF (wide : Bool) : Nat := if wide then 41 else 45
def pB (wide : Bool) : Int := if wide then 18446744073709551616 else 4294967296
theorem uints_calls (wide : Bool) (ns : List Int) (hn : ns.length ≤ 1000) (hw : ∀ n ∈ ns, 0 ≤ n ∧ n < pB wide) (x : Addr) (w : World) (hx : ∀ i, i < ns.length → w.cell? (x.add i) = some (.string ⟨(decL (ns.getD i 0).toNat).toArray⟩)) (hlt : x.block < w.heap.size) :
    Calls Tryz.prog (pF wide) #[.slice (some x) ns.length ns.length] w fun e w' => ∃ g, e = .returned (.tuple #[.slice (some ⟨g, 0, none⟩) ns.length ns.length, .nilIface]) ∧ w.heap.size ≤ g ∧ w'.heap[g]? = some (.cells (ns.map (encI wide)).toArray (ftT wide) (0, 0)) ∧ Below w.heap.size w w' := by
  cases wide
  · exact uints32 ns hn hw x w hx hlt
  · exact uints64 ns hn hw x w hx hlt
theorem pF_ok (wide : Bool) : ∃ ff, Tryz.prog.funcs[pF wide]? = some ff ∧ (ff.name == "runtime.NumGoroutine") = false ∧ ff.body.isSome = true := by
  cases wide
  · exact ⟨_, Tryz.func45, by kernel_rfl, by kernel_rfl⟩
  · exact ⟨_, Tryz.func41, by kernel_rfl, by kernel_rfl⟩

def fieldCells (name : List UInt8) (ns : List Int) : Array Value := (Value.string ⟨name.toArray⟩ :: ns.map (fun n => Value.string ⟨(decL n.toNat).toArray⟩)).toArray
set_option maxRecDepth 100000 in
set_option maxHeartbeats 2000000 in
theorem parse_wp (wide : Bool) (p : String) (r s us err rt : Nat) (name : List UInt8) (ns : List Int) (g : Nat) (a : Act) (W : World) (Q : Exit → Act → World → Prop)
    (hus : us < s) (herr : err < s) (hue : us ≠ err) (hs : 6 < s) (hsz : s + 6 ≤ a.tmps.size) (hn0 : 0 < ns.length) (hn : ns.length ≤ 1000) (hw : ∀ n ∈ ns, 0 ≤ n ∧ n < pB wide)
    (h6 : a.eval (.tmp 6) = .slice (some ⟨g, 0, none⟩) (ns.length + 1) (ns.length + 1)) (hg : W.heap[g]? = some (.cells (fieldCells name ns) 9 (0, 0)))
    (k : ∀ (a' : Act) (W' : World) (gv : Nat), a'.tmps.size = a.tmps.size → a'.defers = a.defers → (∀ t, t < s → t ≠ us → t ≠ err → a'.eval (.tmp t) = a.eval (.tmp t)) → a'.eval (.tmp us) = .slice (some ⟨gv, 0, none⟩) ns.length ns.length → a'.eval (.tmp err) = .nilIface →
      W'.heap[gv]? = some (.cells (ns.map (encI wide)).toArray (ftT wide) (0, 0)) → W.heap.size ≤ gv → Below W.heap.size W W' → Q .normal a' W') :
    (Code.region r (parseOps p s us err (pF wide) rt (stT wide)).toArray false).wp Tryz.prog Q a W := by
  obtain ⟨ff, hF, hFn, hFb⟩ := pF_ok wide
  refine wp_region_lit ?_
  unfold parseOps
  refine Kd.event_run rfl (o_move _ _ _ _ _ _ _ _ h6) ?_
  refine Kd.event_run rfl (o_cut _ _ _ _ _ g ns.length _ (by simp only [mkO]; rw [ev_put (by omega), if_pos rfl]) hn hn0) ?_
  refine goesL_ (some (s + 3)) rfl rfl hF hFn hFb #[.slice (some ⟨g, 1, none⟩) ns.length ns.length] rfl ?_ ?_
  · simp only [mkO, List.map_toArray, List.map_cons, List.map_nil]
    rw [ev_put (by simp only [size_put]; omega), if_pos rfl]
  refine (uints_calls wide ns hn hw ⟨g, 1, none⟩ W (fun i hi => ?_) (blk_lt hg)).mono ?_
  · rw [Addr.add_mid, blk_cell hg]
    simp [fieldCells, Nat.add_comm 1 i, List.getD_eq_getElem?_getD, hi]
  rintro e W1 ⟨gv, rfl, hgv, hcell, hb⟩
  refine ⟨_, rfl, ?_⟩
  refine Kd.event_run rfl (o_move _ _ _ _ _ _ (.tuple #[.slice (some ⟨gv, 0, none⟩) ns.length ns.length, .nilIface]) _ (by simp only [mkO]; rw [ev_put (by simp only [size_put]; omega), if_pos rfl])) ?_
  refine Kd.event_run rfl (o_extract _ _ _ _ _ 0 _ #[.slice (some ⟨gv, 0, none⟩) ns.length ns.length, .nilIface] (.slice (some ⟨gv, 0, none⟩) ns.length ns.length) _ (by simp only [mkO]; rw [ev_put (by simp only [size_put]; omega), if_pos rfl]) rfl) ?_
  refine Kd.event_run rfl (o_extract _ _ _ _ _ 1 _ #[.slice (some ⟨gv, 0, none⟩) ns.length ns.length, .nilIface] .nilIface _ (by simp only [mkO]; rw [ev_put (by simp only [size_put]; omega), if_neg (by omega), ev_put (by simp only [size_put]; omega), if_pos rfl]) rfl) ?_
  refine Kd.event_run rfl (o_assign _ _ _ _ _ _ (.slice (some ⟨gv, 0, none⟩) ns.length ns.length) _ (by simp only [mkO]; rw [ev_put (by simp only [size_put]; omega), if_neg (by omega), ev_put (by simp only [size_put]; omega), if_pos rfl])) ?_
  refine Kd.event_run rfl (o_assign _ _ _ _ _ _ .nilIface _ (by simp only [mkO]; rw [ev_put (by simp only [size_put]; omega), if_neg (by omega), ev_put (by simp only [size_put]; omega), if_pos rfl])) ?_
  refine wpList_nil ?_
  refine k _ _ gv ?_ ?_ ?_ ?_ ?_ hcell hgv hb
  · simp only [mkO, size_put]
  · simp only [mkO, defers_put]
  · intro t h1 h2 h3
    simp only [mkO]
    rw [ev_other h3, ev_other h2, ev_other (by omega), ev_other (by omega), ev_other (by omega), ev_other (by omega), ev_other (by omega), ev_other (by omega)]
  · simp only [mkO]
    rw [ev_other hue, ev_same (by simp only [size_put]; omega)]
  · simp only [mkO]
    rw [ev_same (by simp only [size_put]; omega)]

set_option maxRecDepth 100000 in
set_option maxHeartbeats 2000000 in
theorem store_wp (wide : Bool) (p : String) (r s us err F rt T j off : Nat) (fs : Array Field) (f : Field) (ff : Func) (vals : List Int) (gv b4 : Nat) (e : TypeId) (args : Array Value) (a : Act) (W : World) (Q : Exit → Act → World → Prop)
    (hus : us < s) (herr : err < s) (hs : 4 < s) (h4e : 4 ≠ err) (hsz : s + 6 ≤ a.tmps.size) (hn0 : 0 < vals.length)
    (hu : Tryz.prog.underlying 123 = some (.struct fs)) (hj : fs[j]? = some f) (ho : f.offset = off) (hft : f.type = T) (hi : (Tryz.prog.info? T).map (·.size) = some vals.length)
    (hF : Tryz.prog.funcs[F]? = some ff) (hFn : (ff.name == "runtime.NumGoroutine") = false) (hFb : ff.body.isSome = true)
    (hpb : ∀ w : World, w.heap[gv]? = some (.cells (vals.map (encI wide)).toArray e (0, 0)) → Calls Tryz.prog F #[.slice (some ⟨gv, 0, none⟩) vals.length vals.length] w fun e w' => e = .returned (.tuple #[.agg (vals.map (encI wide)).toArray, .nilIface]) ∧ Below w.heap.size w w')
    (hU : a.eval (.tmp us) = .slice (some ⟨gv, 0, none⟩) vals.length vals.length) (hgv : W.heap[gv]? = some (.cells (vals.map (encI wide)).toArray e (0, 0)))
    (h4 : a.eval (.tmp 4) = .pointer (some ⟨b4, 0, none⟩)) (hb4 : W.heap[b4]? = some (.cells args 123 (0, 0))) (hargs : off + vals.length ≤ args.size)
    (k : ∀ (a' : Act) (W1 : World), a'.tmps.size = a.tmps.size → a'.defers = a.defers → (∀ t, t < s → t ≠ err → a'.eval (.tmp t) = a.eval (.tmp t)) → a'.eval (.tmp err) = .nilIface →
      Below W.heap.size W W1 → Q .normal a' (W1.setRow b4 (args.toList.take off ++ vals.map (encI wide) ++ args.toList.drop (off + vals.length)).toArray)) :
    (Code.region r (storeOps p s us err F rt T (stT wide) j).toArray false).wp Tryz.prog Q a W := by
  refine wp_region_lit ?_
  unfold storeOps
  refine Kd.event_run rfl (o_move _ _ _ _ _ _ _ _ hU) ?_
  refine goesL_ (some (s + 2)) rfl rfl hF hFn hFb #[.slice (some ⟨gv, 0, none⟩) vals.length vals.length] rfl ?_ ?_
  · simp only [mkO, List.map_toArray, List.map_cons, List.map_nil]
    rw [ev_put (by omega), if_pos rfl]
  refine (hpb W hgv).mono ?_
  rintro e W1 ⟨rfl, hb⟩
  refine ⟨_, rfl, ?_⟩
  refine Kd.event_run rfl (o_move _ _ _ _ _ _ (.tuple #[.agg (vals.map (encI wide)).toArray, .nilIface]) _ (by simp only [mkO]; rw [ev_put (by simp only [size_put]; omega), if_pos rfl])) ?_
  refine Kd.event_run rfl (o_extract _ _ _ _ _ 0 _ #[.agg (vals.map (encI wide)).toArray, .nilIface] (.agg (vals.map (encI wide)).toArray) _ (by simp only [mkO]; rw [ev_put (by simp only [size_put]; omega), if_pos rfl]) rfl) ?_
  refine Kd.event_run rfl (o_extract _ _ _ _ _ 1 _ #[.agg (vals.map (encI wide)).toArray, .nilIface] .nilIface _ (by simp only [mkO]; rw [ev_put (by simp only [size_put]; omega), if_neg (by omega), ev_put (by simp only [size_put]; omega), if_pos rfl]) rfl) ?_
  refine Kd.event_run rfl (o_addrO _ b4 _ _ _ _ _ off (vals.length - 1) _ _ (by simp only [mkO]; rw [ev_other (by omega), ev_other (by omega), ev_other (by omega), ev_other (by omega), ev_other (by omega)]; exact h4) fs hu f hj ho (by rw [hft, hi]; congr 1; omega)) ?_
  refine event_skip rfl rfl (o_storeAt _ _ _ _ _ _ 123 b4 off args (vals.map (encI wide)).toArray _ (by simp only [mkO]; rw [ev_same (by simp only [size_put]; omega)]) (by simp only [mkO]; rw [ev_other (by omega), ev_other (by omega), ev_same (by simp only [size_put]; omega)]) (blk_below hb4 hb) (by simpa using hi) (by simpa using hargs) (by simp [encI_one])) ?_
  refine Kd.event_run rfl (o_assign _ _ _ _ _ _ .nilIface _ (by simp only [mkO]; rw [ev_other (by omega), ev_same (by simp only [size_put]; omega)])) ?_
  refine wpList_nil ?_
  have e1 : ((vals.map (encI wide)).toArray).size = vals.length := by simp
  rw [e1]
  refine k _ W1 ?_ ?_ ?_ ?_ hb
  · simp only [mkO, size_put]
  · simp only [mkO, defers_put]
  · intro t h1 h2
    simp only [mkO]
    rw [ev_other h2, ev_other (by omega), ev_other (by omega), ev_other (by omega), ev_other (by omega), ev_other (by omega), ev_other (by omega)]
  · simp only [mkO]
    rw [ev_same (by simp only [size_put]; omega)]
theorem err_wp (p : String) (r s err : Nat) (a : Act) (W : World) (Q : Exit → Act → World → Prop) (herr : err < s) (hsz : s + 2 ≤ a.tmps.size) (h : a.eval (.tmp err) = .nilIface) (dead : Code)
    (k : ∀ a' : Act, a'.tmps.size = a.tmps.size → a'.defers = a.defers → (∀ t, t < s → a'.eval (.tmp t) = a.eval (.tmp t)) → Q .normal a' W) :
    (Code.seq (.region r (errOps p s err).toArray false) (.cond (.tmp (s + 1)) dead .skip)).wp Tryz.prog Q a W := by
  refine wp_seq (wp_region_lit ?_)
  unfold errOps
  refine Kd.event_run rfl (o_move _ _ _ _ _ _ _ _ h) ?_
  refine Kd.event_run rfl (o_nonil _ _ _ _ _ _ (by simp only [mkO]; rw [ev_same (by omega)])) ?_
  refine wpList_nil ?_
  refine wp_cond_false (by simp only [mkO]; rw [ev_same (by simp only [size_put]; omega)]) (wp_skip ?_)
  refine k _ ?_ ?_ ?_
  · simp only [mkO, size_put]
  · simp only [mkO, defers_put]
  · intro t ht
    simp only [mkO]
    rw [ev_other (by omega), ev_other (by omega)]
end Go.Proofs.YtfcalbjebomgcaaGreatDoor.X

/- The switch of ParseStats by induction over its arms; how the struct of all counters turns when one group is stored. -/
namespace Go.Proofs.YtfcalbjebomgcaaGreatDoor.X
open Go.RowKit Go.Proofs.YtfcalbjebomgcaaGreatDoorW.PrintWords Go.Proofs.YtfcalbjebomgcaaGreatDoorW.PrintLast Go.Proofs.YtfcalbjebomgcaaGreatDoorW.PrintMore Go.Proofs.YtfcalbjebomgcaaGreatDoor.Q

def wideI (i : Nat) : Bool := i == 13 || i == 32 || i == 33
def chunk (M : Nat → List Int) (i : Nat) : List Value := (M i).map (encI (wideI i))
theorem stat_chunks (nm : ByteArray) (M : Nat → List Int) : statArgs nm M = (.string nm :: ((List.range 34).map (chunk M)).flatten).toArray := by kernel_rfl
def LensOk (M : Nat → List Int) : Prop := ∀ i, i < 34 → (M i).length = statLens.getD i 0
def upd (M : Nat → List Int) (i : Nat) (vals : List Int) : Nat → List Int := fun k => if k = i then vals else M k

theorem range_split (n i : Nat) (h : i < n) : List.range n = List.range i ++ (i :: List.range' (i + 1) (n - i - 1)) := by
  have h1 : List.range' i (n - i) = i :: List.range' (i + 1) (n - i - 1) := by
    obtain ⟨m, hm⟩ : ∃ m, n - i = m + 1 := ⟨n - i - 1, by omega⟩
    rw [hm, List.range'_succ]
    simp
  rw [← h1, List.range_eq_range', List.range_eq_range']
  have h2 := List.range'_append_1 (s := 0) (m := i) (n := n - i)
  rw [Nat.zero_add] at h2
  rw [h2]
  congr 1
  omega
theorem flat_upd {α : Type} (f f' : Nat → List α) (n i : Nat) (h : i < n) (he : ∀ k, k ≠ i → f' k = f k) (o : Nat) (ho : o = ((List.range i).map (fun k => (f k).length)).sum) :
    ((List.range n).map f').flatten = (((List.range n).map f).flatten).take o ++ f' i ++ (((List.range n).map f).flatten).drop (o + (f i).length) := by
  have e1 : (List.range i).map f' = (List.range i).map f := List.map_congr_left (fun k hk => he k (by have := List.mem_range.1 hk; omega))
  have e2 : (List.range' (i + 1) (n - i - 1)).map f' = (List.range' (i + 1) (n - i - 1)).map f := List.map_congr_left (fun k hk => he k (by have := (List.mem_range'_1.1 hk).1; omega))
  have ho2 : (((List.range i).map f).flatten).length = o := by rw [ho, List.length_flatten, List.map_map]; rfl
  rw [range_split n i h]
  simp only [List.map_append, List.map_cons, List.flatten_append, List.flatten_cons, e1, e2]
  rw [List.take_left' ho2]
  rw [← List.append_assoc ((List.map f (List.range i)).flatten) (f i), List.drop_left' (by rw [List.length_append, ho2])]
  simp
theorem stat_upd (nm : ByteArray) (M : Nat → List Int) (hM : LensOk M) (i : Nat) (hi : i < 34) (vals : List Int) (off : Nat) (ho : off = 1 + (statLens.take i).sum) (hl : vals.length = statLens.getD i 0) :
    ((statArgs nm M).toList.take off ++ vals.map (encI (wideI i)) ++ (statArgs nm M).toList.drop (off + vals.length)).toArray = statArgs nm (upd M i vals) := by
  have hsum : ((List.range i).map (fun k => (chunk M k).length)).sum = (statLens.take i).sum := by
    congr 1
    refine List.ext_getElem (by simp [statLens]; omega) (fun k h1 h2 => ?_)
    simp at h1
    simp only [List.getElem_map, List.getElem_range, chunk, List.length_map, List.getElem_take]
    rw [hM k (by omega), List.getD_eq_getElem?_getD, List.getElem?_eq_getElem (by simp [statLens]; omega)]
    rfl
  have h := flat_upd (chunk M) (chunk (upd M i vals)) 34 i hi (fun k hk => by simp [chunk, upd, hk]) _ rfl
  rw [hsum] at h
  have hc : (chunk M i).length = vals.length := by rw [hl, ← hM i hi]; simp [chunk]
  have hv : chunk (upd M i vals) i = vals.map (encI (wideI i)) := by simp [chunk, upd]
  rw [stat_chunks nm M, stat_chunks nm (upd M i vals), h, hv, hc, ho]
  congr 1
  rw [Nat.add_comm 1, Nat.add_right_comm]
  simp
theorem lens_upd (M : Nat → List Int) (hM : LensOk M) (i : Nat) (vals : List Int) (hl : vals.length = statLens.getD i 0) : LensOk (upd M i vals) := by
  intro k hk
  unfold upd
  by_cases e : k = i
  · rw [if_pos e, e, hl]
  · rw [if_neg e]; exact hM k hk
theorem stat_len (nm : ByteArray) (M : Nat → List Int) (hM : LensOk M) : (statArgs nm M).size = 1 + statLens.sum := by
  rw [stat_chunks]
  have h : ((List.range 34).map (chunk M)).map List.length = statLens := by
    rw [List.map_map]
    refine List.ext_getElem (by simp [statLens]) (fun k h1 h2 => ?_)
    simp at h1
    simp only [List.getElem_map, List.getElem_range, Function.comp, chunk, List.length_map]
    rw [hM k h1, List.getD_eq_getElem?_getD, List.getElem?_eq_getElem h2]
    rfl
  rw [List.size_toArray, List.length_cons, List.length_flatten, h]
  omega
end Go.Proofs.YtfcalbjebomgcaaGreatDoor.X

/- The switch of ParseStats: its arms are as its law asks, and the law, by induction over them. (Written by a program of this claim.) -/
namespace Go.Proofs.YtfcalbjebomgcaaGreatDoor.X
open Go.RowKit Go.Proofs.YtfcalbjebomgcaaGreatDoorW.PrintWords Go.Proofs.YtfcalbjebomgcaaGreatDoorW.PrintLast Go.Proofs.YtfcalbjebomgcaaGreatDoorW.PrintMore Go.Proofs.YtfcalbjebomgcaaGreatDoor.Q
/-- Field j of the struct of all counters takes what function F makes of as many numbers as group j - 1 has. -/
def FieldOk (wide : Bool) (F T j : Nat) : Prop := ∃ (fs : Array Field) (f : Field) (ff : Func), Tryz.prog.underlying 123 = some (.struct fs) ∧ fs[j]? = some f ∧ f.offset = 1 + (statLens.take (j - 1)).sum ∧ f.type = T ∧ (Tryz.prog.info? T).map (·.size) = some (statLens.getD (j - 1) 0) ∧
  Tryz.prog.funcs[F]? = some ff ∧ (ff.name == "runtime.NumGoroutine") = false ∧ ff.body.isSome = true ∧ j - 1 < 34 ∧ wideI (j - 1) = wide ∧ 0 < statLens.getD (j - 1) 0 ∧
  ∀ (vals : List Int) (_ : vals.length = statLens.getD (j - 1) 0) (g : Nat) (e : TypeId) (w : World), w.heap[g]? = some (.cells (vals.map (encI wide)).toArray e (0, 0)) → Calls Tryz.prog F #[.slice (some ⟨g, 0, none⟩) vals.length vals.length] w fun e w' => e = .returned (.tuple #[.agg (vals.map (encI wide)).toArray, .nilIface]) ∧ Below w.heap.size w w'
theorem field_mk (wide : Bool) (F T j n : Nat) (ff : Func) (h1 : (match Tryz.prog.underlying 123 with | some (.struct fs) => (match fs[j]? with | some f => f.offset == 1 + (statLens.take (j - 1)).sum && f.type == T | none => false) | _ => false) = true) (h2 : (Tryz.prog.info? T).map (·.size) = some n) (h3 : Tryz.prog.funcs[F]? = some ff) (h4 : (ff.name == "runtime.NumGoroutine") = false) (h5 : ff.body.isSome = true)
    (h6 : j - 1 < 34) (h7 : wideI (j - 1) = wide) (h8 : statLens.getD (j - 1) 0 = n) (h9 : 0 < n) (hpb : ∀ (vals : List Int) (_ : vals.length = n) (g : Nat) (e : TypeId) (w : World), w.heap[g]? = some (.cells (vals.map (encI wide)).toArray e (0, 0)) → Calls Tryz.prog F #[.slice (some ⟨g, 0, none⟩) n n] w fun e w' => e = .returned (.tuple #[.agg (vals.map (encI wide)).toArray, .nilIface]) ∧ Below w.heap.size w w') : FieldOk wide F T j := by
  cases hu : Tryz.prog.underlying 123 with
  | none => rw [hu] at h1; cases h1
  | some d =>
    rw [hu] at h1
    cases d <;> try (cases h1; done)
    case struct fs =>
      simp only at h1
      cases hf : fs[j]? with
      | none => rw [hf] at h1; cases h1
      | some f =>
        rw [hf] at h1
        simp only [Bool.and_eq_true, beq_iff_eq] at h1
        subst h8
        exact ⟨fs, f, ff, hu, hf, h1.1, h1.2, h2, h3, h4, h5, h6, h7, h9, fun vals hv g e w hg => by rw [hv]; exact hpb vals hv g e w hg⟩
theorem fok1 : FieldOk false 46 68 1 := field_mk false 46 68 1 4 Tryz.f46 (by kernel_rfl) (by kernel_rfl) Tryz.func46 (by kernel_rfl) (by kernel_rfl) (by decide) (by decide) (by decide) (by decide) pb46
theorem fok2 : FieldOk false 47 70 2 := field_mk false 47 70 2 4 Tryz.f47 (by kernel_rfl) (by kernel_rfl) Tryz.func47 (by kernel_rfl) (by kernel_rfl) (by decide) (by decide) (by decide) (by decide) pb47
theorem fok3 : FieldOk false 48 72 3 := field_mk false 48 72 3 7 Tryz.f48 (by kernel_rfl) (by kernel_rfl) Tryz.func48 (by kernel_rfl) (by kernel_rfl) (by decide) (by decide) (by decide) (by decide) pb48
theorem fok4 : FieldOk false 47 70 4 := field_mk false 47 70 4 4 Tryz.f47 (by kernel_rfl) (by kernel_rfl) Tryz.func47 (by kernel_rfl) (by kernel_rfl) (by decide) (by decide) (by decide) (by decide) pb47
theorem fok5 : FieldOk false 49 74 5 := field_mk false 49 74 5 4 Tryz.f49 (by kernel_rfl) (by kernel_rfl) Tryz.func49 (by kernel_rfl) (by kernel_rfl) (by decide) (by decide) (by decide) (by decide) pb49
theorem fok6 : FieldOk false 50 76 6 := field_mk false 50 76 6 3 Tryz.f50 (by kernel_rfl) (by kernel_rfl) Tryz.func50 (by kernel_rfl) (by kernel_rfl) (by decide) (by decide) (by decide) (by decide) pb50
theorem fok7 : FieldOk false 51 78 7 := field_mk false 51 78 7 7 Tryz.f51 (by kernel_rfl) (by kernel_rfl) Tryz.func51 (by kernel_rfl) (by kernel_rfl) (by decide) (by decide) (by decide) (by decide) pb51
theorem fok8 : FieldOk false 52 80 8 := field_mk false 52 80 8 5 Tryz.f52 (by kernel_rfl) (by kernel_rfl) Tryz.func52 (by kernel_rfl) (by kernel_rfl) (by decide) (by decide) (by decide) (by decide) pb52
theorem fok9 : FieldOk false 53 82 9 := field_mk false 53 82 9 2 Tryz.f53 (by kernel_rfl) (by kernel_rfl) Tryz.func53 (by kernel_rfl) (by kernel_rfl) (by decide) (by decide) (by decide) (by decide) pb53
theorem fok10 : FieldOk false 54 84 10 := field_mk false 54 84 10 4 Tryz.f54 (by kernel_rfl) (by kernel_rfl) Tryz.func54 (by kernel_rfl) (by kernel_rfl) (by decide) (by decide) (by decide) (by decide) pb54
theorem fok11 : FieldOk false 55 86 11 := field_mk false 55 86 11 3 Tryz.f55 (by kernel_rfl) (by kernel_rfl) Tryz.func55 (by kernel_rfl) (by kernel_rfl) (by decide) (by decide) (by decide) (by decide) pb55
theorem fok12 : FieldOk false 56 88 12 := field_mk false 56 88 12 8 Tryz.f56 (by kernel_rfl) (by kernel_rfl) Tryz.func56 (by kernel_rfl) (by kernel_rfl) (by decide) (by decide) (by decide) (by decide) pb56
theorem fok13 : FieldOk false 57 90 13 := field_mk false 57 90 13 9 Tryz.f57 (by kernel_rfl) (by kernel_rfl) Tryz.func57 (by kernel_rfl) (by kernel_rfl) (by decide) (by decide) (by decide) (by decide) pb57
theorem fok16 : FieldOk false 58 96 16 := field_mk false 58 96 16 10 Tryz.f58 (by kernel_rfl) (by kernel_rfl) Tryz.func58 (by kernel_rfl) (by kernel_rfl) (by decide) (by decide) (by decide) (by decide) pb58
theorem fok15 : FieldOk false 59 94 15 := field_mk false 59 94 15 2 Tryz.f59 (by kernel_rfl) (by kernel_rfl) Tryz.func59 (by kernel_rfl) (by kernel_rfl) (by decide) (by decide) (by decide) (by decide) pb59
theorem fok19 : FieldOk false 60 102 19 := field_mk false 60 102 19 15 Tryz.f60 (by kernel_rfl) (by kernel_rfl) Tryz.func60 (by kernel_rfl) (by kernel_rfl) (by decide) (by decide) (by decide) (by decide) pb60
theorem fok20 : FieldOk false 61 103 20 := field_mk false 61 103 20 15 Tryz.f61 (by kernel_rfl) (by kernel_rfl) Tryz.func61 (by kernel_rfl) (by kernel_rfl) (by decide) (by decide) (by decide) (by decide) pb61
theorem fok21 : FieldOk false 62 104 21 := field_mk false 62 104 21 15 Tryz.f62 (by kernel_rfl) (by kernel_rfl) Tryz.func62 (by kernel_rfl) (by kernel_rfl) (by decide) (by decide) (by decide) (by decide) pb62
theorem fok22 : FieldOk false 63 105 22 := field_mk false 63 105 22 15 Tryz.f63 (by kernel_rfl) (by kernel_rfl) Tryz.func63 (by kernel_rfl) (by kernel_rfl) (by decide) (by decide) (by decide) (by decide) pb63
theorem fok23 : FieldOk false 64 106 23 := field_mk false 64 106 23 15 Tryz.f64 (by kernel_rfl) (by kernel_rfl) Tryz.func64 (by kernel_rfl) (by kernel_rfl) (by decide) (by decide) (by decide) (by decide) pb64
theorem fok24 : FieldOk false 65 107 24 := field_mk false 65 107 24 15 Tryz.f65 (by kernel_rfl) (by kernel_rfl) Tryz.func65 (by kernel_rfl) (by kernel_rfl) (by decide) (by decide) (by decide) (by decide) pb65
theorem fok25 : FieldOk false 66 108 25 := field_mk false 66 108 25 15 Tryz.f66 (by kernel_rfl) (by kernel_rfl) Tryz.func66 (by kernel_rfl) (by kernel_rfl) (by decide) (by decide) (by decide) (by decide) pb66
theorem fok26 : FieldOk false 67 109 26 := field_mk false 67 109 26 15 Tryz.f67 (by kernel_rfl) (by kernel_rfl) Tryz.func67 (by kernel_rfl) (by kernel_rfl) (by decide) (by decide) (by decide) (by decide) pb67
theorem fok27 : FieldOk false 68 110 27 := field_mk false 68 110 27 15 Tryz.f68 (by kernel_rfl) (by kernel_rfl) Tryz.func68 (by kernel_rfl) (by kernel_rfl) (by decide) (by decide) (by decide) (by decide) pb68
theorem fok28 : FieldOk false 69 111 28 := field_mk false 69 111 28 15 Tryz.f69 (by kernel_rfl) (by kernel_rfl) Tryz.func69 (by kernel_rfl) (by kernel_rfl) (by decide) (by decide) (by decide) (by decide) pb69
theorem fok29 : FieldOk false 70 112 29 := field_mk false 70 112 29 15 Tryz.f70 (by kernel_rfl) (by kernel_rfl) Tryz.func70 (by kernel_rfl) (by kernel_rfl) (by decide) (by decide) (by decide) (by decide) pb70
theorem fok30 : FieldOk false 71 113 30 := field_mk false 71 113 30 15 Tryz.f71 (by kernel_rfl) (by kernel_rfl) Tryz.func71 (by kernel_rfl) (by kernel_rfl) (by decide) (by decide) (by decide) (by decide) pb71
theorem fok18 : FieldOk false 72 100 18 := field_mk false 72 100 18 9 Tryz.f72 (by kernel_rfl) (by kernel_rfl) Tryz.func72 (by kernel_rfl) (by kernel_rfl) (by decide) (by decide) (by decide) (by decide) pb72
theorem fok17 : FieldOk false 73 98 17 := field_mk false 73 98 17 1 Tryz.f73 (by kernel_rfl) (by kernel_rfl) Tryz.func73 (by kernel_rfl) (by kernel_rfl) (by decide) (by decide) (by decide) (by decide) pb73
theorem fok31 : FieldOk false 74 115 31 := field_mk false 74 115 31 3 Tryz.f74 (by kernel_rfl) (by kernel_rfl) Tryz.func74 (by kernel_rfl) (by kernel_rfl) (by decide) (by decide) (by decide) (by decide) pb74
theorem fok32 : FieldOk false 75 117 32 := field_mk false 75 117 32 1 Tryz.f75 (by kernel_rfl) (by kernel_rfl) Tryz.func75 (by kernel_rfl) (by kernel_rfl) (by decide) (by decide) (by decide) (by decide) pb75
theorem fok14 : FieldOk true 43 92 14 := field_mk true 43 92 14 3 Tryz.f43 (by kernel_rfl) (by kernel_rfl) Tryz.func43 (by kernel_rfl) (by kernel_rfl) (by decide) (by decide) (by decide) (by decide) pb43
theorem fok33 : FieldOk true 44 119 33 := field_mk true 44 119 33 1 Tryz.f44 (by kernel_rfl) (by kernel_rfl) Tryz.func44 (by kernel_rfl) (by kernel_rfl) (by decide) (by decide) (by decide) (by decide) pb44
theorem arms_ok : ∀ x ∈ arms, FieldOk false x.F x.T x.j := by
  unfold arms
  simp only [List.mem_cons, List.not_mem_nil, or_false]
  rintro x (rfl | rfl | rfl | rfl | rfl | rfl | rfl | rfl | rfl | rfl | rfl | rfl | rfl | rfl | rfl | rfl | rfl | rfl | rfl | rfl | rfl | rfl | rfl | rfl | rfl | rfl | rfl | rfl | rfl | rfl | rfl)
  · exact fok1
  · exact fok2
  · exact fok3
  · exact fok4
  · exact fok5
  · exact fok6
  · exact fok7
  · exact fok8
  · exact fok9
  · exact fok10
  · exact fok11
  · exact fok12
  · exact fok13
  · exact fok16
  · exact fok15
  · exact fok19
  · exact fok20
  · exact fok21
  · exact fok22
  · exact fok23
  · exact fok24
  · exact fok25
  · exact fok26
  · exact fok27
  · exact fok28
  · exact fok29
  · exact fok30
  · exact fok18
  · exact fok17
  · exact fok31
  · exact fok32
set_option maxRecDepth 100000 in
set_option maxHeartbeats 2000000 in
theorem arms_wp (label : ByteArray) (x : Arm) (ns : List Int) (gv b4 : Nat) (M : Nat → List Int) (nm : ByteArray) (W : World) (Q : Exit → Act → World → Prop) (hM : LensOk M) (hns : ns.length = statLens.getD (x.j - 1) 0)
    (hgv : W.heap[gv]? = some (.cells (ns.map (encI false)).toArray 66 (0, 0))) (hb4 : W.heap[b4]? = some (.cells (statArgs nm M) 123 (0, 0))) :
    ∀ (l : List Arm) (r s : Nat) (a : Act), (∀ y ∈ l, FieldOk false y.F y.T y.j) → l.find? (fun y => label.toList == y.label.toList) = some x → 111 ≤ s → s + 8 * l.length ≤ a.tmps.size →
    a.eval (.tmp 110) = .string label → a.eval (.tmp 14) = .slice (some ⟨gv, 0, none⟩) ns.length ns.length → a.eval (.tmp 4) = .pointer (some ⟨b4, 0, none⟩) →
    (∀ (a' : Act) (W1 : World), a'.tmps.size = a.tmps.size → a'.defers = a.defers → (∀ t : Nat, t < 111 → t ≠ 15 → a'.eval (.tmp t) = a.eval (.tmp t)) → a'.eval (.tmp 15) = .nilIface →
      Below W.heap.size W W1 → Q .normal a' (W1.setRow b4 (statArgs nm (upd M (x.j - 1) ns)))) →
    (armsCode l r s).wp Tryz.prog Q a W
  | [], r, s, a, _, hf, _, _, _, _, _, _ => by simp at hf
  | y :: l, r, s, a, hok, hf, hs, hsz, h110, h14, h4, k => by
    have hsz2 : s + 8 + 8 * l.length ≤ a.tmps.size := by simp at hsz; omega
    unfold armsCode
    refine wp_seq (wp_region_lit (l := [mkO y.p0 (some (s + 1)) (.binOp .eql 9 (.tmp 110) (.const (.string y.label)) 9) 4 [], mkO y.p0 (some s) (.assign (.tmp (s + 1))) 4 [⟨0, .data⟩]]) ?_)
    refine Kd.event_run rfl (o_eqs _ _ _ _ _ label y.label _ h110) ?_
    refine Kd.event_run rfl (o_assign _ _ _ _ _ _ (.bool (label.toList == y.label.toList)) _ (by simp only [mkO]; rw [ev_same (by omega)])) ?_
    refine wpList_nil ?_
    refine wp_cond (t := (label.toList == y.label.toList)) (by simp only [mkO]; rw [ev_same (by simp only [size_put]; omega)]) ?_
    cases he : (label.toList == y.label.toList) with
    | true =>
      simp only [List.find?_cons, he] at hf
      obtain rfl : y = x := Option.some.inj hf
      rw [if_pos rfl]
      obtain ⟨fs, f, ff, hu, hj, ho, hft, hi, hF, hFn, hFb, hj34, hwd, hn0, hpb⟩ := hok y List.mem_cons_self
      rw [← hns] at hi hn0
      refine store_wp false _ _ _ 14 15 y.F y.rt y.T y.j _ fs f ff ns gv b4 66 (statArgs nm M) _ W Q (by omega) (by omega) (by omega) (by omega) (by simp only [mkO, size_put]; omega) hn0 hu hj ho hft hi hF hFn hFb (fun w hg => hpb ns hns gv 66 w hg) ?_ hgv ?_ hb4 ?_ ?_
      · simp only [mkO]; rw [ev_other (by omega), ev_other (by omega)]; exact h14
      · simp only [mkO]; rw [ev_other (by omega), ev_other (by omega)]; exact h4
      · rw [stat_len nm M hM, hns]
        have hle : ∀ i, i < 34 → (statLens.take i).sum + statLens.getD i 0 ≤ statLens.sum := by decide
        have := hle _ hj34
        omega
      · intro a' W1 q1 q2 q3 q4 q5
        have hst := stat_upd nm M hM (y.j - 1) hj34 ns _ rfl hns
        rw [hwd] at hst
        rw [hst]
        refine k a' W1 (by rw [q1]; simp only [mkO, size_put]) (by rw [q2]; simp only [mkO, defers_put]) (fun t ht h15 => ?_) q4 q5
        rw [q3 t (by omega) h15]
        simp only [mkO]; rw [ev_other (by omega), ev_other (by omega)]
    | false =>
      simp only [List.find?_cons, he] at hf
      rw [if_neg (by simp)]
      refine arms_wp label x ns gv b4 M nm W Q hM hns hgv hb4 l (r + 2) (s + 8) _ (fun z hz => hok z (List.mem_cons_of_mem _ hz)) hf (by omega) (by simp only [mkO, size_put]; exact hsz2) ?_ ?_ ?_ ?_
      · simp only [mkO]; rw [ev_other (by omega), ev_other (by omega)]; exact h110
      · simp only [mkO]; rw [ev_other (by omega), ev_other (by omega)]; exact h14
      · simp only [mkO]; rw [ev_other (by omega), ev_other (by omega)]; exact h4
      · intro a' W1 q1 q2 q3 q4 q5
        refine k a' W1 (by rw [q1]; simp only [mkO, size_put]) (by rw [q2]; simp only [mkO, defers_put]) (fun t ht h15 => ?_) q4 q5
        rw [q3 t ht h15]
        simp only [mkO]; rw [ev_other (by omega), ev_other (by omega)]
end Go.Proofs.YtfcalbjebomgcaaGreatDoor.X
