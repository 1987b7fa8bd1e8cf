/- The record of all lines: the fields one after another. -/
import Derived.Test.YtfcalbjebomgcaaGreatDoorM08
set_option linter.unusedVariables false
set_option linter.unusedSimpArgs false
namespace Go.Proofs.YtfcalbjebomgcaaGreatDoor.X
open Go.RowKit Go.Proofs.YtfcalbjebomgcaaGreatDoorW.PrintWords Go.Proofs.YtfcalbjebomgcaaGreatDoorW.PrintLast Go.Proofs.YtfcalbjebomgcaaGreatDoorW.PrintMore Go.Proofs.YtfcalbjebomgcaaGreatDoor.Q

/-- A line of the record: where it stands in the text, its function, its type, its name; its cells, its nodes. -/
structure Ln where
  pos : String
  F : Nat
  FT : Nat
  name : ByteArray
  cs : List Value
  ys : List S43
/-- What a line wants: its region's table, its type, its cells among the argument's, its function's contract. -/
def LnOk (T : TypeId) (args : Array Value) (j s : Nat) (x : Ln) : Prop :=
  rtab .any (callOps x.pos T j s x.F x.FT x.name).toArray = callT ∧
  ∃ (fs : Array Field) (f : Field) (off : Nat) (d : TypeDesc) (ff : Func), Tryz.prog.underlying T = some (.struct fs) ∧ fs[j]? = some f ∧ f.offset = off ∧ f.type = x.FT ∧
    Tryz.prog.underlying x.FT = some d ∧ d.isRow = true ∧ (Tryz.prog.info? x.FT).map (·.size) = some x.cs.length ∧ 0 < x.cs.length ∧
    (∀ i u, x.cs[i]? = some u → args[off + i]? = some u) ∧
    Tryz.prog.funcs[x.F]? = some ff ∧ (ff.name == "runtime.NumGoroutine") = false ∧ ff.body.isSome = true ∧
    ∀ w1, Calls Tryz.prog x.F #[.string x.name, .agg x.cs.toArray] w1 (RecPost w1 x.name x.ys)

def linesCode (T : TypeId) (last : Nat → Nat → Code) : List Ln → Nat → Nat → Nat → Code
  | [], r, _, s => last r s
  | x :: l, r, j, s => .seq (.region r (callOps x.pos T j s x.F x.FT x.name).toArray true) (linesCode T last l (r + 1) (j + 1) (s + 8))

theorem lines_wp (T : TypeId) (last : Nat → Nat → Code) (fn : Func) (w : World) (name : ByteArray) (args : Array Value) (R : Ending → World → Prop) : ∀ (l : List Ln) (r j s : Nat) (a : Act) (W : World) (v : Value) (xs : List S43),
    BSt w T name args W v xs → xs.length + l.length ≤ 1000 → s + 8 * l.length ≤ a.tmps.size → 5 < s →
    (∀ i x, l[i]? = some x → LnOk T args (j + i) (s + 8 * i) x) →
    a.eval (.tmp 3) = .pointer (some ⟨w.heap.size, 0, none⟩) → a.eval (.tmp 5) = .pointer (some ⟨w.heap.size + 2, 0, none⟩) →
    (∀ a' W' v', (∀ t, t < s → a'.eval (.tmp t) = a.eval (.tmp t)) → a'.tmps.size = a.tmps.size → a'.defers = a.defers → BSt w T name args W' v' (xs ++ l.map (fun x => recM x.name x.ys)) → (last (r + l.length) (s + 8 * l.length)).wp Tryz.prog (bodyPost Tryz.prog fn R) a' W') →
    (linesCode T last l r j s).wp Tryz.prog (bodyPost Tryz.prog fn R) a W
  | [], r, j, s, a, W, v, xs, hB, hlen, hsz, hs, hok, h3, h5, k => by
    have := k a W v (fun _ _ => rfl) rfl rfl (by simpa using hB)
    simpa [linesCode] using this
  | x :: l, r, j, s, a, W, v, xs, hB, hlen, hsz, hs, hok, h3, h5, k => by
    obtain ⟨hT, fs, f, off, d, ff, hu, hj, ho, hft, hd, hdr, hi, hc0, hargs, hF, hFn, hFb, hcall⟩ := hok 0 x rfl
    simp only [List.length_cons] at hlen hsz
    refine callField hB (by omega) (by omega) hs hT fs hu f hj ho hft d hd hdr hi hc0 hargs hF hFn hFb hcall h3 h5 (fun a' W' v' e1 e2 e3 hB' => ?_)
    refine lines_wp T last fn w name args R l (r + 1) (j + 1) (s + 8) a' W' v' (xs ++ [recM x.name x.ys]) hB' (by simp only [List.length_append, List.length_cons, List.length_nil]; omega) (by rw [e2]; omega) (by omega) (fun i y hy => ?_) (by rw [e1 3 (by omega)]; exact h3) (by rw [e1 5 (by omega)]; exact h5) (fun a2 W2 v2 g1 g2 g3 hB2 => ?_)
    · have := hok (i + 1) y hy
      rwa [show j + (i + 1) = j + 1 + i by omega, show s + 8 * (i + 1) = s + 8 + 8 * i by omega] at this
    · have := k a2 W2 v2 (fun t ht => (g1 t (by omega)).trans (e1 t ht)) (g2.trans e2) (g3.trans e3) (by simpa using hB2)
      rwa [show r + (x :: l).length = r + 1 + l.length by simp only [List.length_cons]; omega, show s + 8 * (x :: l).length = s + 8 + 8 * l.length by simp only [List.length_cons]; omega] at this
end Go.Proofs.YtfcalbjebomgcaaGreatDoor.X

/- The record of all lines: its name. -/
namespace Go.Proofs.YtfcalbjebomgcaaGreatDoor.X
open Go.RowKit Go.Proofs.YtfcalbjebomgcaaGreatDoorW.PrintWords Go.Proofs.YtfcalbjebomgcaaGreatDoorW.PrintLast Go.Proofs.YtfcalbjebomgcaaGreatDoorW.PrintMore Go.Proofs.YtfcalbjebomgcaaGreatDoor.Q
attribute [local go_sem] run_store_float

def textM (name : ByteArray) (s : ByteArray) : S43 := ⟨name, 5, false, 0, 0, (0 : Nat), s, []⟩
def fieldOpsT (pos : String) (T j s : Nat) (name : ByteArray) : List Oper :=
  [mkO pos (some s) (.fieldAddr 43 (.tmp 5) 7) 0 [],
   mkO pos (some (s + 1)) (.load 41 (.tmp s)) 41 [⟨0, .data⟩],
   mkO pos (some (s + 2)) (.fieldAddr T (.tmp 3) j) 0 [],
   mkO pos (some (s + 3)) (.load 9 (.tmp (s + 2))) 9 [⟨2, .data⟩],
   mkO pos (some (s + 4)) (.build 43 #[(0, .const (.string name)), (1, .const (.int .i64 5)), (6, .tmp (s + 3))]) 43 [⟨3, .data⟩],
   mkO pos (some (s + 5)) (.buildSlice 41 1 #[(0, .tmp (s + 4))]) 41 [⟨4, .data⟩],
   mkO pos (some (s + 6)) (.call { callee := .builtin .append, args := #[.tmp (s + 1), .tmp (s + 5)], argTypes := #[41, 41] }) 41 [⟨1, .data⟩, ⟨5, .data⟩],
   mkO pos (some (s + 7)) (.fieldAddr 43 (.tmp 5) 7) 0 (ph 7),
   mkO pos none (.store 41 (.tmp (s + 7)) (.tmp (s + 6))) 0 (⟨7, .data⟩ :: ⟨6, .data⟩ :: ⟨6, .chain⟩ :: ph 7)]
theorem o_load9 (a : Act) (b : Nat) (W : World) (pos : String) (s t j : Nat) (v : Value) (af : List Edge) (h5 : a.eval (.tmp t) = .pointer (some ⟨b, j, none⟩)) (hc : W.cell? ⟨b, j, none⟩ = some v) :
  (execOp a.eval (mkO pos (some s) (.load 9 (.tmp t)) 9 af)).run Tryz.prog W = .ok (.value v) W := by
  have hu := Tryz.underlying9
  simp only [execOp, mkO, h5]
  go_simp
theorem o_build5 (a : Act) (W : World) (pos : String) (s t : Nat) (name : ByteArray) (n : ByteArray) (af : List Edge) (h : a.eval (.tmp t) = .string n) :
  (execOp a.eval (mkO pos (some s) (.build 43 #[(0, .const (.string name)), (1, .const (.int .i64 5)), (6, .tmp t)]) 43 af)).run Tryz.prog W = .ok (.value (.agg #[.string name, .int .i64 5, .bool false, .int .i64 0, .int .u64 0, .float .f64 0, .string n, .slice none 0 0])) W := by
  have hu := Tryz.underlying43
  have h' : a.tmps[t]?.getD undef = .string n := by rw [← h]; simp [Act.eval]
  simp only [execOp, mkO]
  go_simp

theorem text_tail {w W : World} {T : TypeId} {name fname : ByteArray} {args : Array Value} {v : Value} {xs : List S43} {n : ByteArray} {a : Act} {s : Nat} {pos : String} {ops : Array Oper} {Q : Exit → Act → World → Prop} {af0 af1 af2 af3 af4 : List Edge} {d : Nat}
    (hB : BSt w T name args W v xs) (hlen : xs.length ≤ 1000) (hsz : d + 4 ≤ a.tmps.size) (hd : 5 < s ∧ s + 1 < d)
    (h5 : a.eval (.tmp 5) = .pointer (some ⟨w.heap.size + 2, 0, none⟩)) (h1 : a.eval (.tmp (s + 1)) = v) (hu : a.eval (.tmp (d - 1)) = .string n)
    (k : ∀ a' W' v', (∀ t, t < d → a'.eval (.tmp t) = a.eval (.tmp t)) → a'.tmps.size = a.tmps.size → a'.defers = a.defers → BSt w T name args W' v' (xs ++ [textM fname n]) → Q .normal a' W') :
    wpList Tryz.prog ops Q [mkO pos (some d) (.build 43 #[(0, .const (.string fname)), (1, .const (.int .i64 5)), (6, .tmp (d - 1))]) 43 af0, mkO pos (some (d + 1)) (.buildSlice 41 1 #[(0, .tmp d)]) 41 af1, mkO pos (some (d + 2)) (.call { callee := .builtin .append, args := #[.tmp (s + 1), .tmp (d + 1)], argTypes := #[41, 41] }) 41 af2, mkO pos (some (d + 3)) (.fieldAddr 43 (.tmp 5) 7) 0 af3, mkO pos none (.store 41 (.tmp (d + 3)) (.tmp (d + 2))) 0 af4] a W := by
  have hlt := blk_lt hB.2.2.2.1
  refine Kd.event_run rfl (o_build5 _ _ _ _ _ fname n _ hu) ?_
  refine Kd.event_run rfl (o_slice _ _ _ _ _ _ _ _ _ _ _ _ _ _ (ev_same (by omega))) ?_
  refine Kd.N_append k43 (w0 := w) w.heap.size rfl (.tmp (s + 1)) (.tmp (d + 1)) 41 43 (.agg #[.string ⟨#[]⟩, .int .i64 0, .bool false, .int .i64 0, .int .u64 0, .float .f64 0, .string ⟨#[]⟩, .slice none 0 0]) 96 rfl Tryz.underlying41 info43 rfl (by decide) (by decide) v xs (textM fname n) [.string fname, .int .i64 5, .bool false, .int .i64 0, .int .u64 0, .float .f64 0, .string n, .slice none 0 0] (fun k => w.heap.size + 3 ≤ k) (fun _ => False) ?_ ?_ (k43_mkF W _ (textM fname n) (Nat.le_refl 0) (Kd.F_nil k43 W _)) (fun _ hk => hk.elim) (fun k hk => by omega) hB.1 hB.2.2.2.2 hB.2.2.2.2.size (by omega) ?_
  · simp only [mkO]
    rw [ev_other (by omega), ev_other (by omega)]
    exact h1
  · simp only [mkO]
    rw [ev_same (by simp only [size_put]; omega)]
  intro v1 w1 ho hb hg hat
  have hne : ∀ g, g < w.heap.size + 3 → some g ≠ v.ownBlock := fun g hg he => by have := hB.1.1 g he.symm; omega
  have b0 := blk_grown hB.2.1 hg (hne _ (by omega))
  have b1 := blk_grown hB.2.2.1 hg (hne _ (by omega))
  have b2 := blk_grown hB.2.2.2.1 hg (hne _ (by omega))
  obtain ⟨A1, c1, rfl⟩ := Kd.N_slice ho
  refine Kd.event_run rfl (o_addr7 _ (w.heap.size + 2) _ _ _ _ _ ?_) ?_
  · simp only [mkO]
    rw [ev_other (by omega), ev_other (by omega), ev_other (by omega)]
    exact h5
  refine event_skip rfl rfl (o_store41 _ (w.heap.size + 2) _ _ _ _ A1 (xs ++ [textM fname n]).length c1 _ ?_ ?_ _ ((blk_cell b2 7).trans rfl) (blk_frozen b2 7)) ?_
  · simp only [mkO]
    rw [ev_same (by simp only [size_put]; omega)]
  · simp only [mkO]
    rw [ev_other (by omega), ev_same (by simp only [size_put]; omega)]
  refine k _ _ (.slice A1 (xs ++ [textM fname n]).length c1) ?_ ?_ rfl ⟨?_, ?_, ?_, ?_, ?_⟩
  · intro t ht
    simp only [mkO]
    rw [ev_other (by omega), ev_other (by omega), ev_other (by omega), ev_other (by omega)]
  · simp only [mkO, size_put]
  · exact Kd.N_far ho (fun k hk => by show k ≠ w.heap.size + 2; omega) _
  · exact (Below.heap_setCell _ _ _ _ (by show w.heap.size ≠ w.heap.size + 2; omega)).trans b0
  · exact (Below.heap_setCell _ _ _ _ (by show w.heap.size + 1 ≠ w.heap.size + 2; omega)).trans b1
  · exact blk_put b2 7 _ rfl
  · exact below_set hb (by omega)

theorem fieldText {w W : World} {T : TypeId} {name fname : ByteArray} {args : Array Value} {v : Value} {xs : List S43} {n : ByteArray} {a : Act} {s j r : Nat} {pos : String} {Q : Exit → Act → World → Prop} {last : Code}
    (hB : BSt w T name args W v xs) (hlen : xs.length ≤ 1000) (hsz : s + 8 ≤ a.tmps.size) (hs : 5 < s) (hT : FieldIs T j 9)
    (hn : args[j]? = some (.string n))
    (h3 : a.eval (.tmp 3) = .pointer (some ⟨w.heap.size, 0, none⟩)) (h5 : a.eval (.tmp 5) = .pointer (some ⟨w.heap.size + 2, 0, none⟩))
    (k : ∀ a' W' v', (∀ t, t < s → a'.eval (.tmp t) = a.eval (.tmp t)) → a'.tmps.size = a.tmps.size → a'.defers = a.defers → BSt w T name args W' v' (xs ++ [textM fname n]) → last.wp Tryz.prog Q a' W') :
    (Code.seq (.region r (fieldOpsT pos T j s fname).toArray false) last).wp Tryz.prog Q a W := by
  obtain ⟨fs, f, hu, hj, ho, ht⟩ := hT
  refine wp_seq (wp_region_lit ?_)
  unfold fieldOpsT
  refine Kd.event_run rfl (o_addr7 _ (w.heap.size + 2) _ _ _ _ _ h5) ?_
  refine Kd.event_run rfl (o_load41 _ (w.heap.size + 2) _ _ _ _ 7 v _ (by simp only [mkO]; rw [ev_same (by omega)]) ((blk_cell hB.2.2.2.1 7).trans rfl)) ?_
  refine Kd.event_run rfl (o_addrO _ w.heap.size _ _ _ _ _ j 0 T _ (by simp only [mkO]; rw [ev_other (by omega), ev_other (by omega)]; exact h3) fs hu f hj ho (by rw [ht]; kernel_rfl)) ?_
  refine Kd.event_run rfl (o_load9 _ w.heap.size _ _ _ _ j (.string n) _ (by simp only [mkO]; rw [ev_same (by simp only [size_put]; omega)]) ((blk_cell hB.2.1 j).trans hn)) ?_
  refine text_tail (d := s + 4) (s := s) (fname := fname) (n := n) (xs := xs) hB hlen ?_ ⟨hs, by omega⟩ ?_ ?_ ?_ ?_
  · simp only [mkO, size_put]; omega
  · simp only [mkO]; rw [ev_other (by omega), ev_other (by omega), ev_other (by omega), ev_other (by omega)]; exact h5
  · simp only [mkO]; rw [ev_other (by omega), ev_other (by omega), ev_same (by simp only [size_put]; omega)]
  · simp only [mkO]; rw [show s + 4 - 1 = s + 3 from rfl, ev_same (by simp only [size_put]; omega)]
  · intro a' W' v' h1 h2 h3' h4
    refine k a' W' v' (fun t ht => ?_) ?_ ?_ h4
    · rw [h1 t (by omega)]
      simp only [mkO]; rw [ev_other (by omega), ev_other (by omega), ev_other (by omega), ev_other (by omega)]
    · rw [h2]; simp only [mkO, size_put]
    · rw [h3']; rfl

end Go.Proofs.YtfcalbjebomgcaaGreatDoor.X

/- The record of all lines: the law of the whole function. -/
namespace Go.Proofs.YtfcalbjebomgcaaGreatDoor.X
open Go.RowKit Go.Proofs.YtfcalbjebomgcaaGreatDoorW.PrintWords Go.Proofs.YtfcalbjebomgcaaGreatDoorW.PrintLast Go.Proofs.YtfcalbjebomgcaaGreatDoorW.PrintMore Go.Proofs.YtfcalbjebomgcaaGreatDoor.Q
attribute [local go_sem] run_store_float

theorem head_wp (T : TypeId) (p0 p1 : String) (rest : Code) (Q : Exit → Act → World → Prop) (name : ByteArray) (args : Array Value) (a : Act) (w : World)
    (e0 : a.eval (.tmp 0) = .string name) (e1 : a.eval (.tmp 1) = .agg args) (hs9 : 9 ≤ a.tmps.size)
    (k : ∀ a' W', a'.tmps.size = a.tmps.size → a'.defers = a.defers → a'.eval (.tmp 3) = .pointer (some ⟨w.heap.size, 0, none⟩) → a'.eval (.tmp 4) = .pointer (some ⟨w.heap.size + 1, 0, none⟩) → a'.eval (.tmp 5) = .pointer (some ⟨w.heap.size + 2, 0, none⟩) → BSt w T name args W' (.slice none 0 0) [] → rest.wp Tryz.prog Q a' W') :
    (Code.seq (.region 0 #[mkO p0 (some 3) (.box T (.tmp 1)) 0 [], mkO p0 (some 4) (.alloc 43) 0 []] false)
      (.seq (.region 1 #[mkO p1 (some 6) (.move (.tmp 0)) 9 [], mkO p1 (some 7) (.build 43 #[(0, .tmp 6), (1, .const (.int .i64 8))]) 43 [⟨0, .data⟩], mkO p1 (some 5) (.alloc 43) 0 [], mkO p1 none (.store 43 (.tmp 5) (.tmp 7)) 0 [⟨2, .data⟩, ⟨1, .data⟩, ⟨0, .phase⟩, ⟨1, .phase⟩, ⟨2, .phase⟩]] false) rest)).wp Tryz.prog Q a w := by
  refine wp_seq (wp_region_lit (l := [mkO p0 (some 3) (.box T (.tmp 1)) 0 [], mkO p0 (some 4) (.alloc 43) 0 []]) ?_)
  refine Kd.event_run rfl (o_box _ _ _ _ _ _ args _ e1) ?_
  refine Kd.event_run rfl (o_alloc43 _ _ _ _ _) ?_
  refine wp_seq (wp_region_lit (l := [mkO p1 (some 6) (.move (.tmp 0)) 9 [], mkO p1 (some 7) (.build 43 #[(0, .tmp 6), (1, .const (.int .i64 8))]) 43 [⟨0, .data⟩], mkO p1 (some 5) (.alloc 43) 0 [], mkO p1 none (.store 43 (.tmp 5) (.tmp 7)) 0 [⟨2, .data⟩, ⟨1, .data⟩, ⟨0, .phase⟩, ⟨1, .phase⟩, ⟨2, .phase⟩]]) ?_)
  refine Kd.event_run rfl (o_move _ _ _ _ _ _ (.string name) _ (by simp only [mkO]; rw [ev_other (by omega), ev_other (by omega)]; exact e0)) ?_
  refine Kd.event_run rfl (o_build8 _ _ _ _ _ name _ (by simp only [mkO]; rw [ev_same (by simp only [size_put]; omega)])) ?_
  refine Kd.event_run rfl (o_alloc43 _ _ _ _ _) ?_
  have s1 : (w.alloc (.cells args T)).heap.size = w.heap.size + 1 := World.size_alloc _ _
  have s2 : ((w.alloc (.cells args T)).alloc (.cells #[.string ⟨#[]⟩, .int .i64 0, .bool false, .int .i64 0, .int .u64 0, .float .f64 0, .string ⟨#[]⟩, .slice none 0 0] 43)).heap.size = w.heap.size + 2 := by rw [World.size_alloc, s1]
  have B := below_alloc (below_alloc (below_alloc (Below.refl w.heap.size w) (.cells args T)) (.cells #[.string ⟨#[]⟩, .int .i64 0, .bool false, .int .i64 0, .int .u64 0, .float .f64 0, .string ⟨#[]⟩, .slice none 0 0] 43)) (.cells #[.string ⟨#[]⟩, .int .i64 0, .bool false, .int .i64 0, .int .u64 0, .float .f64 0, .string ⟨#[]⟩, .slice none 0 0] 43)
  have b0 := blk_alloc (blk_alloc (blk_new w (.cells args T)) (.cells #[.string ⟨#[]⟩, .int .i64 0, .bool false, .int .i64 0, .int .u64 0, .float .f64 0, .string ⟨#[]⟩, .slice none 0 0] 43)) (.cells #[.string ⟨#[]⟩, .int .i64 0, .bool false, .int .i64 0, .int .u64 0, .float .f64 0, .string ⟨#[]⟩, .slice none 0 0] 43)
  have b1 := blk_alloc (blk_new (w.alloc (.cells args T)) (.cells #[.string ⟨#[]⟩, .int .i64 0, .bool false, .int .i64 0, .int .u64 0, .float .f64 0, .string ⟨#[]⟩, .slice none 0 0] 43)) (.cells #[.string ⟨#[]⟩, .int .i64 0, .bool false, .int .i64 0, .int .u64 0, .float .f64 0, .string ⟨#[]⟩, .slice none 0 0] 43)
  have b2 := blk_new ((w.alloc (.cells args T)).alloc (.cells #[.string ⟨#[]⟩, .int .i64 0, .bool false, .int .i64 0, .int .u64 0, .float .f64 0, .string ⟨#[]⟩, .slice none 0 0] 43)) (.cells #[.string ⟨#[]⟩, .int .i64 0, .bool false, .int .i64 0, .int .u64 0, .float .f64 0, .string ⟨#[]⟩, .slice none 0 0] 43)
  rw [s1] at b1
  rw [s2] at b2
  refine event_skip rfl rfl (o_store43 _ (w.heap.size + 2) _ _ _ _ name ⟨#[]⟩ 8 0 0 false 0 none 0 0 _ _ _ _ _ _ _ _ _ (by simp only [mkO]; rw [ev_same (by simp only [size_put]; omega), s2]) (by simp only [mkO]; rw [ev_other (by omega), ev_same (by simp only [size_put]; omega)]) b2) ?_
  refine k _ _ ?_ ?_ ?_ ?_ ?_ ⟨Kd.N_nil _ _ _ _ _, ?_, ?_, ?_, ?_⟩
  · simp only [mkO, size_put]
  · simp only [mkO, defers_put]
  · simp only [mkO]; rw [ev_other (by omega), ev_other (by omega), ev_other (by omega), ev_other (by omega), ev_same (by omega)]
  · simp only [mkO]; rw [ev_other (by omega), ev_other (by omega), ev_other (by omega), ev_same (by simp only [size_put]; omega), s1]
  · simp only [mkO]; rw [ev_same (by simp only [size_put]; omega), s2]
  · exact (far8 (by omega) _ _ _ _ _ _ _ _).trans b0
  · exact (far8 (by omega) _ _ _ _ _ _ _ _).trans b1
  · exact put8 b2 _ _ _ _ _ _ _ _
  · exact below_put8 B (by omega) _ _ _ _ _ _ _ _

def statsCode (T : TypeId) (p0 p1 p2 pl : String) (tname : ByteArray) (l : List Ln) : Code :=
  .seq (.region 0 #[mkO p0 (some 3) (.box T (.tmp 1)) 0 [], mkO p0 (some 4) (.alloc 43) 0 []] false)
    (.seq (.region 1 #[mkO p1 (some 6) (.move (.tmp 0)) 9 [], mkO p1 (some 7) (.build 43 #[(0, .tmp 6), (1, .const (.int .i64 8))]) 43 [⟨0, .data⟩], mkO p1 (some 5) (.alloc 43) 0 [], mkO p1 none (.store 43 (.tmp 5) (.tmp 7)) 0 [⟨2, .data⟩, ⟨1, .data⟩, ⟨0, .phase⟩, ⟨1, .phase⟩, ⟨2, .phase⟩]] false)
      (.seq (.region 2 (fieldOpsT p2 T 0 8 tname).toArray false)
        (linesCode T (fun r s => fieldsCode false T pl [] r 0 s) l 3 1 16)))

theorem stats_calls (T : TypeId) (p0 p1 p2 pl : String) (tname : ByteArray) (l : List Ln) (F : FuncId) (fn : Func) (hF : Tryz.prog.funcs[F]? = some fn) (hb : fn.body = some (statsCode T p0 p1 p2 pl tname l)) (hres : fn.results = #[.cell 4 43]) (hnt : 16 + 8 * l.length + 1 ≤ fn.ntmps) (hl : l.length ≤ 900)
    (hT0 : FieldIs T 0 9) (name nm : ByteArray) (args : Array Value) (ha0 : args[0]? = some (.string nm)) (hok : ∀ i x, l[i]? = some x → LnOk T args (1 + i) (16 + 8 * i) x) (w : World) :
    Calls Tryz.prog F #[.string name, .agg args] w (RecPost w name (textM tname nm :: l.map (fun x => recM x.name x.ys))) := by
  refine calls_of_wp hF hb ?_
  obtain ⟨a, ha⟩ : ∃ a : Act, a = { tmps := #[.string name, .agg args] ++ Array.replicate (fn.ntmps - (#[.string name, .agg args] : Array Value).size) undef, defers := [] } := ⟨_, rfl⟩
  rw [← ha]
  have e0 : a.eval (.tmp 0) = .string name := by rw [ha]; simp only [Act.eval, Array.getD_eq_getD_getElem?]; rw [Array.getElem?_append_left (by simp)]; rfl
  have e1 : a.eval (.tmp 1) = .agg args := by rw [ha]; simp only [Act.eval, Array.getD_eq_getD_getElem?]; rw [Array.getElem?_append_left (by simp)]; rfl
  have hd : a.defers = [] := by rw [ha]
  have hsz : a.tmps.size = fn.ntmps := by rw [ha]; simp; omega
  clear ha
  refine head_wp T p0 p1 _ _ name args a w e0 e1 (by omega) (fun a1 W1 g1 g2 g3 g4 g5 hB1 => ?_)
  refine fieldText (s := 8) (fname := tname) (n := nm) hB1 (by simp) (by omega) (by omega) hT0 ha0 g3 g5 (fun a2 W2 v2 q1 q2 q3 hB2 => ?_)
  refine lines_wp T _ fn w name args _ l 3 1 16 a2 W2 v2 _ hB2 (by simp; omega) (by omega) (by omega) hok (by rw [q1 3 (by omega)]; exact g3) (by rw [q1 5 (by omega)]; exact g5) (fun a3 W3 v3 k1 k2 k3 hB3 => ?_)
  have h := fields_wp false T pl fn hres w name args [] [] (3 + l.length) 0 (16 + 8 * l.length) a3 W3 v3 _ rfl hB3 (by simp; omega) (by simp; omega) (by omega) (fun i hi => absurd hi (Nat.not_lt_zero _)) (fun i n hn => by simp at hn) (by rw [k1 3 (by omega), q1 3 (by omega)]; exact g3) (by rw [k1 4 (by omega), q1 4 (by omega)]; exact g4) (by rw [k1 5 (by omega), q1 5 (by omega)]; exact g5) (by rw [k3, q3, g2]; exact hd)
  simpa using h
end Go.Proofs.YtfcalbjebomgcaaGreatDoor.X
