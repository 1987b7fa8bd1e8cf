/- Small general lemmas of this claim: rows of cells that a literal makes, read as a list; what is read in a block. -/
import Derived.Test.YtfcalbjebomgcaaGreatDoorM01
set_option linter.unusedVariables false
set_option linter.unusedSimpArgs false
namespace Go.Proofs.YtfcalbjebomgcaaGreatDoor.X
open Go.RowKit Go.Proofs.YtfcalbjebomgcaaGreatDoorW.PrintWords Go.Proofs.YtfcalbjebomgcaaGreatDoorW.PrintLast Go.Proofs.YtfcalbjebomgcaaGreatDoorW.PrintMore Go.Proofs.YtfcalbjebomgcaaGreatDoor.Q

/-- A block of scalars is read as the list of them. -/
theorem C_scalars {α : Type} {enc : α → Value} {h1 : ∀ x, (enc x).oneCell' = true} (d : α) {w : World} {g : Nat} {e : TypeId} {xs : List α}
    (h : w.heap[g]? = some (.cells (xs.map enc).toArray e (0, 0))) (hn : xs.length ≤ 9223372036854775807) :
    (Kd.scalar enc h1).C w (some ⟨g, 0, none⟩) xs.length xs :=
  Kd.C_of_reads (d := d) ⟨rfl, hn, fun _ => ⟨_, rfl, fun j hj => by
    rw [add_plain, blk_cell h]
    simp [List.getD_eq_getElem?_getD, hj]⟩⟩

theorem flat_get {α : Type} (sz : Nat) : ∀ (l : List (α × List Value)) (_ : ∀ p ∈ l, p.2.length = sz) (j i : Nat) (p : α × List Value), l[j]? = some p → i < sz → (l.flatMap (·.2))[j * sz + i]? = p.2[i]?
  | [], _, j, i, p, h, _ => by simp at h
  | q :: l, hl, 0, i, p, h, hi => by
    obtain rfl : q = p := by simpa using h
    have := hl q (List.mem_cons_self)
    rw [List.flatMap_cons, Nat.zero_mul, Nat.zero_add, List.getElem?_append_left (by omega)]
  | q :: l, hl, j + 1, i, p, h, hi => by
    have hq := hl q (List.mem_cons_self)
    have ih := flat_get sz l (fun p hp => hl p (List.mem_cons_of_mem _ hp)) j i p (by simpa using h) hi
    rw [List.flatMap_cons, Nat.succ_mul, List.getElem?_append_right (by omega), hq]
    rw [show j * sz + sz + i - sz = j * sz + i by omega]
    exact ih
/-- A block of elements of several cells. -/
theorem C_rows {α : Type} (d : Kd α) {w : World} {g : Nat} {e : TypeId} (l : List (α × List Value)) {cells : List Value} (hc : l.flatMap (·.2) = cells)
    (h : w.heap[g]? = some (.cells cells.toArray e (0, 0))) (hK : ∀ p ∈ l, d.K w p.1 p.2) (hn : l.length ≤ 9223372036854775807) :
    d.C w (some ⟨g, 0, none⟩) l.length (l.map (·.1)) := by
  subst hc
  refine ⟨by simp, hn, fun _ => ⟨_, rfl, fun j p hj => ?_⟩⟩
  rw [List.getElem?_map] at hj
  cases hq : l[j]? with
  | none => rw [hq] at hj; cases hj
  | some q =>
    rw [hq] at hj
    obtain rfl : q.1 = p := by simpa using hj
    have hm : q ∈ l := List.mem_of_getElem? hq
    refine ⟨q.2, d.K_len (hK q hm), hK q hm, fun i u hu => ?_⟩
    rw [add_plain, blk_cell h]
    have hi : i < d.sz := by
      have := (List.getElem?_eq_some_iff.1 hu).1
      rw [d.K_len (hK q hm)] at this
      exact this
    simpa [flat_get d.sz l (fun p hp => d.K_len (hK p hp)) j i q hq hi] using hu

/-- The same, with the blocks that are read: all from base on. -/
theorem C_rowsF {α : Type} (d : Kd α) {w : World} {base g : Nat} {e : TypeId} (l : List (α × List Value)) {cells : List Value} (hc : l.flatMap (·.2) = cells)
    (h : w.heap[g]? = some (.cells cells.toArray e (0, 0))) (hg : base ≤ g) (hK : ∀ p ∈ l, Kd.FK d w (fun k => base ≤ k) p.1 p.2) (hn : l.length ≤ 9223372036854775807) :
    Kd.F d w (fun k => base ≤ k) (some ⟨g, 0, none⟩) l.length (l.map (·.1)) := fun W' hW =>
  C_rows d l hc ((hW g hg (blk_lt h)).trans h) (fun p hp => hK p hp W' hW) hn
theorem F_scalars {α : Type} {enc : α → Value} {h1 : ∀ x, (enc x).oneCell' = true} (d : α) {w : World} {base g : Nat} {e : TypeId} {xs : List α}
    (h : w.heap[g]? = some (.cells (xs.map enc).toArray e (0, 0))) (hg : base ≤ g) (hn : xs.length ≤ 9223372036854775807) :
    Kd.F (Kd.scalar enc h1) w (fun k => base ≤ k) (some ⟨g, 0, none⟩) xs.length xs := fun W' hW => C_scalars d ((hW g hg (blk_lt h)).trans h) hn

section
variable {P : Program} {ops : Array Oper} {rest : List Oper} {o : Oper} {a : Act} {Q : Exit → Act → World → Prop}
/-- A literal of texts: the world gets a letter. -/
theorem strs_event {W : World} {e : TypeId} (hgd : o.guard = none) {N : Tmp} (_hd : o.dst = some N) (ss : List ByteArray) (n : Nat) (hlen : ss.length = n) (hn : n ≤ 9223372036854775807)
    (hrun : (execOp a.eval o).run P W = .ok (.value (.slice (some ⟨W.heap.size, 0, none⟩) n n)) (W.alloc (.cells (ss.map Value.string).toArray e (0, 0))))
    (h : ∀ g, ∀ w1, Kd.F Kd.string w1 (fun k => W.heap.size ≤ k) (some ⟨g, 0, none⟩) n ss → Below W.heap.size W w1 → wpList P ops Q rest (a.put o.dst (.slice (some ⟨g, 0, none⟩) n n)) w1) : wpList P ops Q (o :: rest) a W := by
  subst hlen
  exact Kd.event_run hgd hrun (h _ _ (F_scalars (⟨#[]⟩ : ByteArray) (blk_new W _) (Nat.le_refl _) hn) (below_alloc (Below.refl _ _) _))
end

/-- Block g is o, and of what was there before nothing has turned. -/
def KeepS (g : Nat) (o : Obj) (w w' : World) : Prop := w'.heap[g]? = some o ∧ Below w.heap.size w w'
section
variable {g : Nat} {o : Obj} {w W W' : World}
theorem KeepS.below (h : KeepS g o w W) (hb : Below W.heap.size W W') : KeepS g o w W' := ⟨blk_below h.1 hb, below_step h.2 hb⟩
theorem KeepS.alloc (h : KeepS g o w W) (o' : Obj) : KeepS g o w (W.alloc o') := ⟨blk_alloc h.1 o', below_alloc h.2 o'⟩
theorem KeepS.drew (h : KeepS g o w W) : KeepS g o w W.drew := ⟨h.1, below_drew h.2⟩
theorem KeepS.drewN (h : KeepS g o w W) (n : Nat) : KeepS g o w (W.drewN n) := ⟨h.1, pw_below_drewN h.2 n⟩
theorem KeepS.far (h : KeepS g o w W) {p : Addr} (hp : g ≠ p.block) (hw : w.heap.size ≤ p.block) (v : Value) : KeepS g o w (W.setCell p v) :=
  ⟨(Below.heap_setCell W p v g hp).trans h.1, h.2.setCell hw v⟩
end
end Go.Proofs.YtfcalbjebomgcaaGreatDoor.X

/- The doors' records: a function that appends a node a field, by one law over the list of its fields. -/
namespace Go.Proofs.YtfcalbjebomgcaaGreatDoor.X
open Go.RowKit Go.Proofs.YtfcalbjebomgcaaGreatDoorW.PrintWords Go.Proofs.YtfcalbjebomgcaaGreatDoorW.PrintLast Go.Proofs.YtfcalbjebomgcaaGreatDoorW.PrintMore Go.Proofs.YtfcalbjebomgcaaGreatDoor.Q
attribute [local go_sem] run_store_float

def ph (n : Nat) : List Edge := (List.range n).map (fun i => ⟨i, .phase⟩)
def mkO (pos : String) (dst : Option Nat) (op : Op) (ty : TypeId) (after : List Edge) : Oper := ⟨dst, op, ty, pos, after.toArray, none⟩
def fieldOps32 (pos : String) (T j s : Nat) (name : ByteArray) : List Oper :=
  [mkO pos (some s) (.fieldAddr 43 (.tmp 5) 7) 0 [],
   mkO pos (some (s + 1)) (.load 41 (.tmp s)) 41 [⟨0, .data⟩],
   mkO pos (some (s + 2)) (.fieldAddr T (.tmp 3) j) 0 [],
   mkO pos (some (s + 3)) (.load 66 (.tmp (s + 2))) 66 [⟨2, .data⟩],
   mkO pos (some (s + 4)) (.convert 66 35 (.tmp (s + 3))) 35 [⟨3, .data⟩],
   mkO pos (some (s + 5)) (.build 43 #[(0, .const (.string name)), (1, .const (.int .i64 3)), (4, .tmp (s + 4))]) 43 [⟨4, .data⟩],
   mkO pos (some (s + 6)) (.buildSlice 41 1 #[(0, .tmp (s + 5))]) 41 [⟨5, .data⟩],
   mkO pos (some (s + 7)) (.call { callee := .builtin .append, args := #[.tmp (s + 1), .tmp (s + 6)], argTypes := #[41, 41] }) 41 [⟨1, .data⟩, ⟨6, .data⟩],
   mkO pos (some (s + 8)) (.fieldAddr 43 (.tmp 5) 7) 0 (ph 8),
   mkO pos none (.store 41 (.tmp (s + 8)) (.tmp (s + 7))) 0 (⟨8, .data⟩ :: ⟨7, .data⟩ :: ⟨7, .chain⟩ :: ph 8)]

theorem ev_same {a : Act} {s : Nat} {v : Value} (h : s < a.tmps.size) : (a.put (some s) v).eval (.tmp s) = v := by
  simp [Act.put, Act.eval, h]
theorem ev_other {a : Act} {s t : Nat} {v : Value} (h : t ≠ s) : (a.put (some s) v).eval (.tmp t) = a.eval (.tmp t) := by
  simp [Act.put, Act.eval, Array.getElem?_setIfInBounds_ne (Ne.symm h)]
theorem size_put {a : Act} {s : Option Nat} {v : Value} : (a.put s v).tmps.size = a.tmps.size := by
  cases s <;> simp [Act.put]


theorem o_addr7 (a : Act) (b : Nat) (W : World) (pos : String) (s t : Nat) (af : List Edge) (h5 : a.eval (.tmp t) = .pointer (some ⟨b, 0, none⟩)) :
  (execOp a.eval (mkO pos (some s) (.fieldAddr 43 (.tmp t) 7) 0 af)).run Tryz.prog W = .ok (.value (.pointer (some ⟨b, 7, none⟩))) W := by
  have hu := Tryz.underlying43
  simp only [execOp, mkO, h5]
  go_simp
theorem o_addr (a : Act) (b : Nat) (W : World) (pos : String) (s t j ft : Nat) (T : TypeId) (af : List Edge) (h5 : a.eval (.tmp t) = .pointer (some ⟨b, 0, none⟩)) (fs : Array Field) (hu : Tryz.prog.underlying T = some (.struct fs)) (f : Field) (hj : fs[j]? = some f) (ho : f.offset = j) (ht : f.type = ft) (hft : ft = 66 ∨ ft = 35) :
  (execOp a.eval (mkO pos (some s) (.fieldAddr T (.tmp t) j) 0 af)).run Tryz.prog W = .ok (.value (.pointer (some ⟨b, j, none⟩))) W := by
  simp only [execOp, mkO, h5]
  go_simp
  rw [run_underlying hu]
  simp only [Result.andThen, hj, ho, ht]
  rcases hft with rfl | rfl
  · go_simp
  · go_simp
theorem o_load41 (a : Act) (b : Nat) (W : World) (pos : String) (s t j : Nat) (v : Value) (af : List Edge) (h5 : a.eval (.tmp t) = .pointer (some ⟨b, j, none⟩)) (hc : W.cell? ⟨b, j, none⟩ = some v) :
  (execOp a.eval (mkO pos (some s) (.load 41 (.tmp t)) 41 af)).run Tryz.prog W = .ok (.value v) W := by
  have hu := Tryz.underlying41
  simp only [execOp, mkO, h5]
  go_simp
theorem o_load66 (a : Act) (b : Nat) (W : World) (pos : String) (s t j : Nat) (v : Value) (af : List Edge) (h5 : a.eval (.tmp t) = .pointer (some ⟨b, j, none⟩)) (hc : W.cell? ⟨b, j, none⟩ = some v) :
  (execOp a.eval (mkO pos (some s) (.load 66 (.tmp t)) 66 af)).run Tryz.prog W = .ok (.value v) W := by
  have hu := Tryz.underlying66
  simp only [execOp, mkO, h5]
  go_simp
theorem o_load35 (a : Act) (b : Nat) (W : World) (pos : String) (s t j : Nat) (v : Value) (af : List Edge) (h5 : a.eval (.tmp t) = .pointer (some ⟨b, j, none⟩)) (hc : W.cell? ⟨b, j, none⟩ = some v) :
  (execOp a.eval (mkO pos (some s) (.load 35 (.tmp t)) 35 af)).run Tryz.prog W = .ok (.value v) W := by
  have hu := Tryz.underlying35
  simp only [execOp, mkO, h5]
  go_simp
theorem o_conv (a : Act) (W : World) (pos : String) (s t : Nat) (n : Int) (af : List Edge) (h : a.eval (.tmp t) = .int .u32 n) (h0 : 0 ≤ n) (h1 : n < 4294967296) :
  (execOp a.eval (mkO pos (some s) (.convert 66 35 (.tmp t)) 35 af)).run Tryz.prog W = .ok (.value (.int .u64 n)) W := by
  have hu := Tryz.underlying35
  have hu6 := Tryz.underlying66
  have hw : IntKind.u64.wrap n = n := by show n % 18446744073709551616 = n; omega
  simp only [execOp, mkO, h]
  go_simp
theorem o_build (a : Act) (W : World) (pos : String) (s t : Nat) (name : ByteArray) (n : Int) (af : List Edge) (h : a.eval (.tmp t) = .int .u64 n) :
  (execOp a.eval (mkO pos (some s) (.build 43 #[(0, .const (.string name)), (1, .const (.int .i64 3)), (4, .tmp t)]) 43 af)).run Tryz.prog W = .ok (.value (.agg #[.string name, .int .i64 3, .bool false, .int .i64 0, .int .u64 n, .float .f64 0, .string ⟨#[]⟩, .slice none 0 0])) W := by
  have hu := Tryz.underlying43
  have h' : a.tmps[t]?.getD undef = .int .u64 n := by rw [← h]; simp [Act.eval]
  simp only [execOp, mkO]
  go_simp
theorem o_slice (a : Act) (W : World) (pos : String) (s t : Nat) (v0 v1 v2 v3 v4 v5 v6 v7 : Value) (af : List Edge) (h : a.eval (.tmp t) = .agg #[v0, v1, v2, v3, v4, v5, v6, v7]) :
  (execOp a.eval (mkO pos (some s) (.buildSlice 41 1 #[(0, .tmp t)]) 41 af)).run Tryz.prog W = .ok (.value (.slice (some ⟨W.heap.size, 0, none⟩) 1 1)) (W.alloc (.cells #[v0, v1, v2, v3, v4, v5, v6, v7] 43)) := by
  have hu := Tryz.underlying43
  have hu1 := Tryz.underlying41
  have h' : a.tmps[t]?.getD undef = .agg #[v0, v1, v2, v3, v4, v5, v6, v7] := by rw [← h]; simp [Act.eval]
  simp only [execOp, mkO]
  go_simp
theorem o_store41 (a : Act) (b : Nat) (W : World) (pos : String) (p t : Nat) (A : Option Addr) (n c : Nat) (af : List Edge) (hp : a.eval (.tmp p) = .pointer (some ⟨b, 7, none⟩)) (ht : a.eval (.tmp t) = .slice A n c) (u : Value) (hc : W.cell? ⟨b, 7, none⟩ = some u) (hf : W.frozen? ⟨b, 7, none⟩ = false) :
  (execOp a.eval (mkO pos none (.store 41 (.tmp p) (.tmp t)) 0 af)).run Tryz.prog W = .ok .skip (W.setCell ⟨b, 7, none⟩ (.slice A n c)) := by
  have hu1 := Tryz.underlying41
  simp only [execOp, mkO, hp, ht]
  go_simp

theorem info43 : (Tryz.prog.info? 43).map (fun i => (i.zero, i.size, i.bytes)) = some (some (.agg #[(.string ⟨#[]⟩), (.int .i64 0), (.bool false), (.int .i64 0), (.int .u64 0), (.float .f64 0), (.string ⟨#[]⟩), (.slice none 0 0)]), 8, 96) := by kernel_rfl
def uintM (name : ByteArray) (n : Int) : S43 := ⟨name, 3, false, 0, n, (0 : Nat), ⟨#[]⟩, []⟩
/-- A record in the making: its block, the result's, the argument's. -/
def BSt (w : World) (T : TypeId) (name : ByteArray) (args : Array Value) (W : World) (v : Value) (xs : List S43) : Prop :=
  Kd.N k43 43 W w.heap.size (fun k => w.heap.size + 3 ≤ k) v xs ∧
  W.heap[w.heap.size]? = some (.cells args T (0, 0)) ∧
  W.heap[w.heap.size + 1]? = some (.cells #[.string ⟨#[]⟩, .int .i64 0, .bool false, .int .i64 0, .int .u64 0, .float .f64 0, .string ⟨#[]⟩, .slice none 0 0] 43 (0, 0)) ∧
  W.heap[w.heap.size + 2]? = some (.cells #[.string name, .int .i64 8, .bool false, .int .i64 0, .int .u64 0, .float .f64 0, .string ⟨#[]⟩, v] 43 (0, 0)) ∧
  Below w.heap.size w W

section
variable {P : Program} {ops : Array Oper} {rest : List Oper} {o : Oper} {a : Act} {Q : Exit → Act → World → Prop}
theorem event_skip {W w1 : World} (hgd : o.guard = none) (hd : o.dst = none) (hrun : (execOp a.eval o).run P W = .ok .skip w1) (h : wpList P ops Q rest a w1) : wpList P ops Q (o :: rest) a W := by
  refine wpList_plain hgd fun K hK => ?_
  unfold Oper.wp
  rw [hrun, Oper.upon_skip, hd]
  exact hK _ _ h
end

theorem field_tail {w W : World} {T : TypeId} {name fname : ByteArray} {args : Array Value} {v : Value} {xs : List S43} {n : Int} {a : Act} {s : Nat} {pos : String} {ops : Array Oper} {Q : Exit → Act → World → Prop} {af0 af1 af2 af3 af4 : List Edge} {d : Nat}
    (hB : BSt w T name args W v xs) (hlen : xs.length ≤ 1000) (hsz : d + 4 ≤ a.tmps.size) (hd : 5 < s ∧ s + 1 < d)
    (h5 : a.eval (.tmp 5) = .pointer (some ⟨w.heap.size + 2, 0, none⟩)) (h1 : a.eval (.tmp (s + 1)) = v) (hu : a.eval (.tmp (d - 1)) = .int .u64 n)
    (k : ∀ a' W' v', (∀ t, t < d → a'.eval (.tmp t) = a.eval (.tmp t)) → a'.tmps.size = a.tmps.size → a'.defers = a.defers → BSt w T name args W' v' (xs ++ [uintM fname n]) → Q .normal a' W') :
    wpList Tryz.prog ops Q [mkO pos (some d) (.build 43 #[(0, .const (.string fname)), (1, .const (.int .i64 3)), (4, .tmp (d - 1))]) 43 af0, mkO pos (some (d + 1)) (.buildSlice 41 1 #[(0, .tmp d)]) 41 af1, mkO pos (some (d + 2)) (.call { callee := .builtin .append, args := #[.tmp (s + 1), .tmp (d + 1)], argTypes := #[41, 41] }) 41 af2, mkO pos (some (d + 3)) (.fieldAddr 43 (.tmp 5) 7) 0 af3, mkO pos none (.store 41 (.tmp (d + 3)) (.tmp (d + 2))) 0 af4] a W := by
  have hlt := blk_lt hB.2.2.2.1
  refine Kd.event_run rfl (o_build _ _ _ _ _ fname n _ hu) ?_
  refine Kd.event_run rfl (o_slice _ _ _ _ _ _ _ _ _ _ _ _ _ _ (ev_same (by omega))) ?_
  refine Kd.N_append k43 (w0 := w) w.heap.size rfl (.tmp (s + 1)) (.tmp (d + 1)) 41 43 (.agg #[.string ⟨#[]⟩, .int .i64 0, .bool false, .int .i64 0, .int .u64 0, .float .f64 0, .string ⟨#[]⟩, .slice none 0 0]) 96 rfl Tryz.underlying41 info43 rfl (by decide) (by decide) v xs (uintM fname n) [.string fname, .int .i64 3, .bool false, .int .i64 0, .int .u64 n, .float .f64 0, .string ⟨#[]⟩, .slice none 0 0] (fun k => w.heap.size + 3 ≤ k) (fun _ => False) ?_ ?_ (k43_mkF W _ (uintM fname n) (Nat.le_refl 0) (Kd.F_nil k43 W _)) (fun _ hk => hk.elim) (fun k hk => by omega) hB.1 hB.2.2.2.2 hB.2.2.2.2.size (by omega) ?_
  · simp only [mkO]
    rw [ev_other (by omega), ev_other (by omega)]
    exact h1
  · simp only [mkO]
    rw [ev_same (by simp only [size_put]; omega)]
  intro v1 w1 ho hb hg hat
  have hne : ∀ g, g < w.heap.size + 3 → some g ≠ v.ownBlock := fun g hg he => by have := hB.1.1 g he.symm; omega
  have b0 := blk_grown hB.2.1 hg (hne _ (by omega))
  have b1 := blk_grown hB.2.2.1 hg (hne _ (by omega))
  have b2 := blk_grown hB.2.2.2.1 hg (hne _ (by omega))
  obtain ⟨A1, c1, rfl⟩ := Kd.N_slice ho
  refine Kd.event_run rfl (o_addr7 _ (w.heap.size + 2) _ _ _ _ _ ?_) ?_
  · simp only [mkO]
    rw [ev_other (by omega), ev_other (by omega), ev_other (by omega)]
    exact h5
  refine event_skip rfl rfl (o_store41 _ (w.heap.size + 2) _ _ _ _ A1 (xs ++ [uintM fname n]).length c1 _ ?_ ?_ _ ((blk_cell b2 7).trans rfl) (blk_frozen b2 7)) ?_
  · simp only [mkO]
    rw [ev_same (by simp only [size_put]; omega)]
  · simp only [mkO]
    rw [ev_other (by omega), ev_same (by simp only [size_put]; omega)]
  refine k _ _ (.slice A1 (xs ++ [uintM fname n]).length c1) ?_ ?_ rfl ⟨?_, ?_, ?_, ?_, ?_⟩
  · intro t ht
    simp only [mkO]
    rw [ev_other (by omega), ev_other (by omega), ev_other (by omega), ev_other (by omega)]
  · simp only [mkO, size_put]
  · exact Kd.N_far ho (fun k hk => by show k ≠ w.heap.size + 2; omega) _
  · exact (Below.heap_setCell _ _ _ _ (by show w.heap.size ≠ w.heap.size + 2; omega)).trans b0
  · exact (Below.heap_setCell _ _ _ _ (by show w.heap.size + 1 ≠ w.heap.size + 2; omega)).trans b1
  · exact blk_put b2 7 _ rfl
  · exact below_set hb (by omega)

/-! ### the fields, one after another -/
def fieldOps64 (pos : String) (T j s : Nat) (name : ByteArray) : List Oper :=
  [mkO pos (some s) (.fieldAddr 43 (.tmp 5) 7) 0 [],
   mkO pos (some (s + 1)) (.load 41 (.tmp s)) 41 [⟨0, .data⟩],
   mkO pos (some (s + 2)) (.fieldAddr T (.tmp 3) j) 0 [],
   mkO pos (some (s + 3)) (.load 35 (.tmp (s + 2))) 35 [⟨2, .data⟩],
   mkO pos (some (s + 4)) (.build 43 #[(0, .const (.string name)), (1, .const (.int .i64 3)), (4, .tmp (s + 3))]) 43 [⟨3, .data⟩],
   mkO pos (some (s + 5)) (.buildSlice 41 1 #[(0, .tmp (s + 4))]) 41 [⟨4, .data⟩],
   mkO pos (some (s + 6)) (.call { callee := .builtin .append, args := #[.tmp (s + 1), .tmp (s + 5)], argTypes := #[41, 41] }) 41 [⟨1, .data⟩, ⟨5, .data⟩],
   mkO pos (some (s + 7)) (.fieldAddr 43 (.tmp 5) 7) 0 (ph 7),
   mkO pos none (.store 41 (.tmp (s + 7)) (.tmp (s + 6))) 0 (⟨7, .data⟩ :: ⟨6, .data⟩ :: ⟨6, .chain⟩ :: ph 7)]

/-- A field of the argument's type is a number of 32 or of 64 bits. -/
def FieldIs (T : TypeId) (j ft : Nat) : Prop := ∃ fs f, Tryz.prog.underlying T = some (.struct fs) ∧ fs[j]? = some f ∧ f.offset = j ∧ f.type = ft

theorem field32 {w W : World} {T : TypeId} {name fname : ByteArray} {args : Array Value} {v : Value} {xs : List S43} {n : Int} {a : Act} {s j r : Nat} {pos : String} {Q : Exit → Act → World → Prop} {last : Code}
    (hB : BSt w T name args W v xs) (hlen : xs.length ≤ 1000) (hsz : s + 9 ≤ a.tmps.size) (hs : 5 < s) (hT : FieldIs T j 66)
    (hn : args[j]? = some (.int .u32 n)) (hn0 : 0 ≤ n ∧ n < 4294967296)
    (h3 : a.eval (.tmp 3) = .pointer (some ⟨w.heap.size, 0, none⟩)) (h5 : a.eval (.tmp 5) = .pointer (some ⟨w.heap.size + 2, 0, none⟩))
    (k : ∀ a' W' v', (∀ t, t < s → a'.eval (.tmp t) = a.eval (.tmp t)) → a'.tmps.size = a.tmps.size → a'.defers = a.defers → BSt w T name args W' v' (xs ++ [uintM fname n]) → last.wp Tryz.prog Q a' W') :
    (Code.seq (.region r (fieldOps32 pos T j s fname).toArray false) last).wp Tryz.prog Q a W := by
  obtain ⟨fs, f, hu, hj, ho, ht⟩ := hT
  refine wp_seq (wp_region_lit ?_)
  unfold fieldOps32
  refine Kd.event_run rfl (o_addr7 _ (w.heap.size + 2) _ _ _ _ _ h5) ?_
  refine Kd.event_run rfl (o_load41 _ (w.heap.size + 2) _ _ _ _ 7 v _ (by simp only [mkO]; rw [ev_same (by omega)]) ((blk_cell hB.2.2.2.1 7).trans rfl)) ?_
  refine Kd.event_run rfl (o_addr _ w.heap.size _ _ _ 3 j 66 T _ (by simp only [mkO]; rw [ev_other (by omega), ev_other (by omega)]; exact h3) fs hu f hj ho ht (.inl rfl)) ?_
  refine Kd.event_run rfl (o_load66 _ w.heap.size _ _ _ _ j (.int .u32 n) _ (by simp only [mkO]; rw [ev_same (by simp only [size_put]; omega)]) ((blk_cell hB.2.1 j).trans hn)) ?_
  refine Kd.event_run rfl (o_conv _ _ _ _ _ n _ (by simp only [mkO]; rw [ev_same (by simp only [size_put]; omega)]) hn0.1 hn0.2) ?_
  refine field_tail (d := s + 5) (s := s) (fname := fname) (n := n) (xs := xs) hB hlen ?_ ⟨hs, by omega⟩ ?_ ?_ ?_ ?_
  · simp only [mkO, size_put]; omega
  · simp only [mkO]; rw [ev_other (by omega), ev_other (by omega), ev_other (by omega), ev_other (by omega), ev_other (by omega)]; exact h5
  · simp only [mkO]; rw [ev_other (by omega), ev_other (by omega), ev_other (by omega), ev_same (by simp only [size_put]; omega)]
  · simp only [mkO]; rw [show s + 5 - 1 = s + 4 from rfl, ev_same (by simp only [size_put]; omega)]
  · intro a' W' v' h1 h2 h3' h4
    refine k a' W' v' (fun t ht => ?_) ?_ ?_ h4
    · rw [h1 t (by omega)]
      simp only [mkO]; rw [ev_other (by omega), ev_other (by omega), ev_other (by omega), ev_other (by omega), ev_other (by omega)]
    · rw [h2]; simp only [mkO, size_put]
    · rw [h3']; rfl

theorem field64 {w W : World} {T : TypeId} {name fname : ByteArray} {args : Array Value} {v : Value} {xs : List S43} {n : Int} {a : Act} {s j r : Nat} {pos : String} {Q : Exit → Act → World → Prop} {last : Code}
    (hB : BSt w T name args W v xs) (hlen : xs.length ≤ 1000) (hsz : s + 8 ≤ a.tmps.size) (hs : 5 < s) (hT : FieldIs T j 35)
    (hn : args[j]? = some (.int .u64 n))
    (h3 : a.eval (.tmp 3) = .pointer (some ⟨w.heap.size, 0, none⟩)) (h5 : a.eval (.tmp 5) = .pointer (some ⟨w.heap.size + 2, 0, none⟩))
    (k : ∀ a' W' v', (∀ t, t < s → a'.eval (.tmp t) = a.eval (.tmp t)) → a'.tmps.size = a.tmps.size → a'.defers = a.defers → BSt w T name args W' v' (xs ++ [uintM fname n]) → last.wp Tryz.prog Q a' W') :
    (Code.seq (.region r (fieldOps64 pos T j s fname).toArray false) last).wp Tryz.prog Q a W := by
  obtain ⟨fs, f, hu, hj, ho, ht⟩ := hT
  refine wp_seq (wp_region_lit ?_)
  unfold fieldOps64
  refine Kd.event_run rfl (o_addr7 _ (w.heap.size + 2) _ _ _ _ _ h5) ?_
  refine Kd.event_run rfl (o_load41 _ (w.heap.size + 2) _ _ _ _ 7 v _ (by simp only [mkO]; rw [ev_same (by omega)]) ((blk_cell hB.2.2.2.1 7).trans rfl)) ?_
  refine Kd.event_run rfl (o_addr _ w.heap.size _ _ _ 3 j 35 T _ (by simp only [mkO]; rw [ev_other (by omega), ev_other (by omega)]; exact h3) fs hu f hj ho ht (.inr rfl)) ?_
  refine Kd.event_run rfl (o_load35 _ w.heap.size _ _ _ _ j (.int .u64 n) _ (by simp only [mkO]; rw [ev_same (by simp only [size_put]; omega)]) ((blk_cell hB.2.1 j).trans hn)) ?_
  refine field_tail (d := s + 4) (s := s) (fname := fname) (n := n) (xs := xs) hB hlen ?_ ⟨hs, by omega⟩ ?_ ?_ ?_ ?_
  · simp only [mkO, size_put]; omega
  · simp only [mkO]; rw [ev_other (by omega), ev_other (by omega), ev_other (by omega), ev_other (by omega)]; exact h5
  · simp only [mkO]; rw [ev_other (by omega), ev_other (by omega), ev_same (by simp only [size_put]; omega)]
  · simp only [mkO]; rw [show s + 4 - 1 = s + 3 from rfl, ev_same (by simp only [size_put]; omega)]
  · intro a' W' v' h1 h2 h3' h4
    refine k a' W' v' (fun t ht => ?_) ?_ ?_ h4
    · rw [h1 t (by omega)]
      simp only [mkO]; rw [ev_other (by omega), ev_other (by omega), ev_other (by omega), ev_other (by omega)]
    · rw [h2]; simp only [mkO, size_put]
    · rw [h3']; rfl

/-- The code of the fields, and behind them the record handed back. -/
def fieldsCode (wide : Bool) (T : TypeId) (pl : String) : List (ByteArray × String) → Nat → Nat → Nat → Code
  | [], r, _, s => .seq (.region r #[mkO pl (some s) (.load 43 (.tmp 5)) 43 [], mkO pl none (.store 43 (.tmp 4) (.tmp s)) 0 [⟨0, .data⟩, ⟨0, .phase⟩]] false) .ret
  | (n, p) :: fs, r, j, s => .seq (.region r (if wide then fieldOps64 p T j s n else fieldOps32 p T j s n).toArray false) (fieldsCode wide T pl fs (r + 1) (j + 1) (if wide then s + 8 else s + 9))
def builderCode (wide : Bool) (T : TypeId) (p0 p1 pl : String) (fs : List (ByteArray × String)) : Code :=
  .seq (.region 0 #[mkO p0 (some 3) (.box T (.tmp 1)) 0 [], mkO p0 (some 4) (.alloc 43) 0 []] false)
    (.seq (.region 1 #[mkO p1 (some 6) (.move (.tmp 0)) 9 [], mkO p1 (some 7) (.build 43 #[(0, .tmp 6), (1, .const (.int .i64 8))]) 43 [⟨0, .data⟩], mkO p1 (some 5) (.alloc 43) 0 [], mkO p1 none (.store 43 (.tmp 5) (.tmp 7)) 0 [⟨2, .data⟩, ⟨1, .data⟩, ⟨0, .phase⟩, ⟨1, .phase⟩, ⟨2, .phase⟩]] false)
      (fieldsCode wide T pl fs 2 0 8))
end Go.Proofs.YtfcalbjebomgcaaGreatDoor.X

/- lineOf and named: the first group (row) of a label: contracts by hand. -/
namespace Go.Proofs.YtfcalbjebomgcaaGreatDoor.X
open Go.RowKit Go.Proofs.YtfcalbjebomgcaaGreatDoorW.PrintWords Go.Proofs.YtfcalbjebomgcaaGreatDoorW.PrintLast Go.Proofs.YtfcalbjebomgcaaGreatDoorW.PrintMore Go.Proofs.YtfcalbjebomgcaaGreatDoor.Q

/-- What lineOf hands back. -/
def LineRes (gs : List S52) (name : ByteArray) (w w' : World) (e : Ending) : Prop :=
  Below w.heap.size w w' ∧
  ((∃ i, i < gs.length ∧ (gs.getD i z52).f0.toList = name.toList ∧ (∀ j, j < i → (gs.getD j z52).f0.toList ≠ name.toList) ∧
      ∃ A2 c2, e = .returned (.tuple #[.agg #[.string (gs.getD i z52).f0, .string (gs.getD i z52).f1, .slice A2 (gs.getD i z52).f2.length c2], .bool true]) ∧ (gs.getD i z52).f2.length ≤ c2 ∧ Kd.string.C w' A2 (gs.getD i z52).f2.length (gs.getD i z52).f2) ∨
   ((∀ j, j < gs.length → (gs.getD j z52).f0.toList ≠ name.toList) ∧ e = .returned (.tuple #[.agg #[.string ⟨#[]⟩, .string ⟨#[]⟩, .slice none 0 0], .bool false])))

set_option maxHeartbeats 800000 in
set_option maxRecDepth 100000 in
theorem lineOf_calls (gs : List S52) (name : ByteArray) (A : Option Addr) (c : Nat) (w : World) (hr : Kd.C k52 w A gs.length gs) (hc : gs.length ≤ c) :
    Calls Tryz.prog 29 #[.slice A gs.length c, .string name] w fun e w' => LineRes gs name w w' e := by
  have HR := Aside0.mk hr
  have hm : gs.length ≤ 9223372036854775807 := hr.2.1
  have hu52 := Tryz.underlying52
  clear hr hc
  go_enter Tryz.func29, Tryz.ntmps29
  go_wp2
  go_loopw [10] (fun v10 w' => ∃ i : Nat, i ≤ gs.length ∧ v10 = .int .i64 i ∧ Aside0 (∀ j, j < i → (gs.getD j z52).f0.toList ≠ name.toList) ∧ Aside0 (w'.heap[w.heap.size]? = some (.cells #[.string ⟨#[]⟩, .string ⟨#[]⟩, .slice none 0 0] 52 (0, 0))) ∧ Aside0 (Below w.heap.size w w')) (fun v10 _ => gs.length - (intOf v10).toNat)
  case atStart => exact ⟨0, Nat.zero_le _, rfl, ⟨fun j hj => absurd hj (Nat.not_lt_zero _)⟩, ⟨blk_new _ _⟩, ⟨below_alloc (Below.refl _ _) _⟩⟩
  case round =>
    obtain ⟨i, hi, rfl, HN, HBK, HB⟩ := hrel
    by_cases hlt : i < gs.length
    · obtain ⟨ad, A2, c2, e, h0, h1, h2, hl, hC⟩ := at_T52 HR.out (i : Int) (Int.natCast_nonneg _) (by omega)
      cases e
      rw [Int.toNat_natCast] at h0 h1 h2
      have e0 : rd_T52 gs (i : Int) = gs.getD i z52 := by rw [rd_T52, Int.toNat_natCast]
      rw [e0] at h0 h1 h2 hl hC
      replace h0 := (HB.out.cell (World.block_lt_of_cell? w _ h0)).trans h0
      replace h1 := (HB.out.cell (World.block_lt_of_cell? w _ h1)).trans h1
      replace h2 := (HB.out.cell (World.block_lt_of_cell? w _ h2)).trans h2
      have HC := Aside0.mk hC
      have HL := Aside0.mk hl
      have E0 := Aside0.mk e0
      clear hC hl e0
      have k0 : ∀ o, (wr.alloc o).cell? ⟨w.heap.size, 0, none⟩ = some (.string ⟨#[]⟩) := fun o => (blk_cell (blk_alloc HBK.out o) 0).trans rfl
      have k1 : ∀ o, (wr.alloc o).cell? ⟨w.heap.size, 1, none⟩ = some (.string ⟨#[]⟩) := fun o => (blk_cell (blk_alloc HBK.out o) 1).trans rfl
      have k2 : ∀ o, (wr.alloc o).cell? ⟨w.heap.size, 2, none⟩ = some (.slice none 0 0) := fun o => (blk_cell (blk_alloc HBK.out o) 2).trans rfl
      have f0 : ∀ o, (wr.alloc o).frozen? ⟨w.heap.size, 0, none⟩ = false := fun o => blk_frozen (blk_alloc HBK.out o) 0
      have f1 : ∀ o, (wr.alloc o).frozen? ⟨w.heap.size, 1, none⟩ = false := fun o => blk_frozen (blk_alloc HBK.out o) 1
      have f2 : ∀ o, (wr.alloc o).frozen? ⟨w.heap.size, 2, none⟩ = false := fun o => blk_frozen (blk_alloc HBK.out o) 2
      go_wp2
      · have hq : (gs[i].f0.toList == name.toList) = true := by assumption
        have BK := blk_put (blk_put (blk_put (blk_alloc HBK.out (.cells #[.string gs[i].f0, .string gs[i].f1, .slice A2 gs[i].f2.length c2] 52 (0, 0))) 0 (.string gs[i].f0) rfl) 1 (.string gs[i].f1) rfl) 2 (.slice A2 gs[i].f2.length c2) rfl
        have BB := below_set (v := .slice A2 gs[i].f2.length c2) (j := 2) (below_set (v := .string gs[i].f1) (j := 1) (below_set (v := .string gs[i].f0) (j := 0) (below_alloc HB.out (.cells #[.string gs[i].f0, .string gs[i].f1, .slice A2 gs[i].f2.length c2] 52 (0, 0))) (Nat.le_refl _)) (Nat.le_refl _)) (Nat.le_refl _)
        have eg : gs.getD i z52 = gs[i] := by simp [List.getD_eq_getElem?_getD, hlt]
        refine bodyPost_ret (results_ct rfl _ _ w.heap.size 52 _ (0, 0) _ rfl BK hu52 rfl (by kernel_rfl)) rfl ?_
        refine ⟨BB, .inl ⟨i, hlt, by rw [eg]; exact beq_iff_eq.1 hq, HN.out, A2, c2, ?_, ?_, ?_⟩⟩
        · rw [eg]; rfl
        · exact HL.out
        · exact Kd.C_below HC.out BB
      · have hq : (gs[i].f0.toList == name.toList) = false := by assumption
        have eg : gs.getD i z52 = gs[i] := by simp [List.getD_eq_getElem?_getD, hlt]
        go_roundw
        case measure => simp [intOf]; omega
        case rel => exact ⟨i + 1, by omega, by go_num, ⟨fun j hj => by rcases Nat.lt_or_ge j i with h | h; exact HN.out j h; (obtain rfl : j = i := by omega); rw [eg]; exact beq_eq_false_iff_ne.1 hq⟩, ⟨blk_alloc HBK.out _⟩, ⟨below_alloc HB.out _⟩⟩
    · have k0 : wr.cell? ⟨w.heap.size, 0, none⟩ = some (.string ⟨#[]⟩) := (blk_cell HBK.out 0).trans rfl
      have k1 : wr.cell? ⟨w.heap.size, 1, none⟩ = some (.string ⟨#[]⟩) := (blk_cell HBK.out 1).trans rfl
      have k2 : wr.cell? ⟨w.heap.size, 2, none⟩ = some (.slice none 0 0) := (blk_cell HBK.out 2).trans rfl
      have f0 : ∀ j, wr.frozen? ⟨w.heap.size, j, none⟩ = false := fun j => blk_frozen HBK.out j
      go_wp2
      have BK := blk_put (blk_put (blk_put HBK.out 0 (.string ⟨#[]⟩) rfl) 1 (.string ⟨#[]⟩) rfl) 2 (.slice none 0 0) rfl
      refine bodyPost_ret (results_ct rfl _ _ w.heap.size 52 _ (0, 0) _ rfl BK hu52 rfl (by kernel_rfl)) rfl ?_
      obtain rfl : i = gs.length := by omega
      exact ⟨below_set (below_set (below_set HB.out (Nat.le_refl _)) (Nat.le_refl _)) (Nat.le_refl _), .inr ⟨HN.out, rfl⟩⟩

/-- What named hands back. -/
def NamedRes (gs : List S31) (name : ByteArray) (w w' : World) (e : Ending) : Prop :=
  Below w.heap.size w w' ∧
  ((∃ i, i < gs.length ∧ (gs.getD i z31).f0.toList = name.toList ∧ (∀ j, j < i → (gs.getD j z31).f0.toList ≠ name.toList) ∧
      ∃ A1 c1 A2 c2, e = .returned (.tuple #[.agg #[.string (gs.getD i z31).f0, .slice A1 (gs.getD i z31).f1.length c1, .slice A2 (gs.getD i z31).f2.length c2], .bool true]) ∧ (gs.getD i z31).f1.length ≤ c1 ∧ (Kd.int .u64).C w' A1 (gs.getD i z31).f1.length (gs.getD i z31).f1 ∧ (gs.getD i z31).f2.length ≤ c2 ∧ Kd.string.C w' A2 (gs.getD i z31).f2.length (gs.getD i z31).f2) ∨
   ((∀ j, j < gs.length → (gs.getD j z31).f0.toList ≠ name.toList) ∧ e = .returned (.tuple #[.agg #[.string ⟨#[]⟩, .slice none 0 0, .slice none 0 0], .bool false])))

set_option maxHeartbeats 800000 in
set_option maxRecDepth 100000 in
theorem named_calls (gs : List S31) (name : ByteArray) (A : Option Addr) (c : Nat) (w : World) (hr : Kd.C k31 w A gs.length gs) (hc : gs.length ≤ c) :
    Calls Tryz.prog 17 #[.slice A gs.length c, .string name] w fun e w' => NamedRes gs name w w' e := by
  have HR := Aside0.mk hr
  have hm : gs.length ≤ 9223372036854775807 := hr.2.1
  have hu31 := Tryz.underlying31
  clear hr hc
  go_enter Tryz.func17, Tryz.ntmps17
  go_wp2
  go_loopw [10] (fun v10 w' => ∃ i : Nat, i ≤ gs.length ∧ v10 = .int .i64 i ∧ Aside0 (∀ j, j < i → (gs.getD j z31).f0.toList ≠ name.toList) ∧ Aside0 (w'.heap[w.heap.size]? = some (.cells #[.string ⟨#[]⟩, .slice none 0 0, .slice none 0 0] 31 (0, 0))) ∧ Aside0 (Below w.heap.size w w')) (fun v10 _ => gs.length - (intOf v10).toNat)
  case atStart => exact ⟨0, Nat.zero_le _, rfl, ⟨fun j hj => absurd hj (Nat.not_lt_zero _)⟩, ⟨blk_new _ _⟩, ⟨below_alloc (Below.refl _ _) _⟩⟩
  case round =>
    obtain ⟨i, hi, rfl, HN, HBK, HB⟩ := hrel
    by_cases hlt : i < gs.length
    · obtain ⟨ad, A1, c1, A2, c2, e, h0, h1, h2, hl1, hC1, hl, hC⟩ := at_T31 HR.out (i : Int) (Int.natCast_nonneg _) (by omega)
      cases e
      rw [Int.toNat_natCast] at h0 h1 h2
      have e0 : rd_T31 gs (i : Int) = gs.getD i z31 := by rw [rd_T31, Int.toNat_natCast]
      rw [e0] at h0 h1 h2 hl1 hC1 hl hC
      replace h0 := (HB.out.cell (World.block_lt_of_cell? w _ h0)).trans h0
      replace h1 := (HB.out.cell (World.block_lt_of_cell? w _ h1)).trans h1
      replace h2 := (HB.out.cell (World.block_lt_of_cell? w _ h2)).trans h2
      have HC := Aside0.mk hC
      have HL := Aside0.mk hl
      have HC1 := Aside0.mk hC1
      have HL1 := Aside0.mk hl1
      have E0 := Aside0.mk e0
      clear hC hl hC1 hl1 e0
      have k0 : ∀ o, (wr.alloc o).cell? ⟨w.heap.size, 0, none⟩ = some (.string ⟨#[]⟩) := fun o => (blk_cell (blk_alloc HBK.out o) 0).trans rfl
      have k1 : ∀ o, (wr.alloc o).cell? ⟨w.heap.size, 1, none⟩ = some (.slice none 0 0) := fun o => (blk_cell (blk_alloc HBK.out o) 1).trans rfl
      have k2 : ∀ o, (wr.alloc o).cell? ⟨w.heap.size, 2, none⟩ = some (.slice none 0 0) := fun o => (blk_cell (blk_alloc HBK.out o) 2).trans rfl
      have f0 : ∀ o, (wr.alloc o).frozen? ⟨w.heap.size, 0, none⟩ = false := fun o => blk_frozen (blk_alloc HBK.out o) 0
      have f1 : ∀ o, (wr.alloc o).frozen? ⟨w.heap.size, 1, none⟩ = false := fun o => blk_frozen (blk_alloc HBK.out o) 1
      have f2 : ∀ o, (wr.alloc o).frozen? ⟨w.heap.size, 2, none⟩ = false := fun o => blk_frozen (blk_alloc HBK.out o) 2
      go_wp2
      · have hq : (gs[i].f0.toList == name.toList) = true := by assumption
        have BK := blk_put (blk_put (blk_put (blk_alloc HBK.out (.cells #[.string gs[i].f0, .slice A1 gs[i].f1.length c1, .slice A2 gs[i].f2.length c2] 31 (0, 0))) 0 (.string gs[i].f0) rfl) 1 (.slice A1 gs[i].f1.length c1) rfl) 2 (.slice A2 gs[i].f2.length c2) rfl
        have BB := below_set (v := .slice A2 gs[i].f2.length c2) (j := 2) (below_set (v := .slice A1 gs[i].f1.length c1) (j := 1) (below_set (v := .string gs[i].f0) (j := 0) (below_alloc HB.out (.cells #[.string gs[i].f0, .slice A1 gs[i].f1.length c1, .slice A2 gs[i].f2.length c2] 31 (0, 0))) (Nat.le_refl _)) (Nat.le_refl _)) (Nat.le_refl _)
        have eg : gs.getD i z31 = gs[i] := by simp [List.getD_eq_getElem?_getD, hlt]
        refine bodyPost_ret (results_ct rfl _ _ w.heap.size 31 _ (0, 0) _ rfl BK hu31 rfl (by kernel_rfl)) rfl ?_
        refine ⟨BB, .inl ⟨i, hlt, by rw [eg]; exact beq_iff_eq.1 hq, HN.out, A1, c1, A2, c2, ?_, ?_, ?_, ?_, ?_⟩⟩
        · rw [eg]; rfl
        · exact HL1.out
        · exact Kd.C_below HC1.out BB
        · exact HL.out
        · exact Kd.C_below HC.out BB
      · have hq : (gs[i].f0.toList == name.toList) = false := by assumption
        have eg : gs.getD i z31 = gs[i] := by simp [List.getD_eq_getElem?_getD, hlt]
        go_roundw
        case measure => simp [intOf]; omega
        case rel => exact ⟨i + 1, by omega, by go_num, ⟨fun j hj => by rcases Nat.lt_or_ge j i with h | h; exact HN.out j h; (obtain rfl : j = i := by omega); rw [eg]; exact beq_eq_false_iff_ne.1 hq⟩, ⟨blk_alloc HBK.out _⟩, ⟨below_alloc HB.out _⟩⟩
    · have k0 : wr.cell? ⟨w.heap.size, 0, none⟩ = some (.string ⟨#[]⟩) := (blk_cell HBK.out 0).trans rfl
      have k1 : wr.cell? ⟨w.heap.size, 1, none⟩ = some (.slice none 0 0) := (blk_cell HBK.out 1).trans rfl
      have k2 : wr.cell? ⟨w.heap.size, 2, none⟩ = some (.slice none 0 0) := (blk_cell HBK.out 2).trans rfl
      have f0 : ∀ j, wr.frozen? ⟨w.heap.size, j, none⟩ = false := fun j => blk_frozen HBK.out j
      go_wp2
      have BK := blk_put (blk_put (blk_put HBK.out 0 (.string ⟨#[]⟩) rfl) 1 (.slice none 0 0) rfl) 2 (.slice none 0 0) rfl
      refine bodyPost_ret (results_ct rfl _ _ w.heap.size 31 _ (0, 0) _ rfl BK hu31 rfl (by kernel_rfl)) rfl ?_
      obtain rfl : i = gs.length := by omega
      exact ⟨below_set (below_set (below_set HB.out (Nat.le_refl _)) (Nat.le_refl _)) (Nat.le_refl _), .inr ⟨HN.out, rfl⟩⟩

/-- The first element of a label. -/
theorem find_first {α : Type} (d : α) (p : α → Bool) : ∀ (l : List α) (i : Nat), i < l.length → p (l.getD i d) = true → (∀ j, j < i → p (l.getD j d) = false) → l.find? p = some (l.getD i d)
  | [], i, h, _, _ => absurd h (Nat.not_lt_zero _)
  | a :: l, 0, _, h, _ => by
    have h' : p a = true := h
    rw [List.find?_cons_of_pos h']; rfl
  | a :: l, i + 1, h, h1, h2 => by
    have h0 : p a = false := h2 0 (Nat.succ_pos _)
    have ih := find_first d p l i (Nat.lt_of_succ_lt_succ h) h1 (fun j hj => h2 (j + 1) (Nat.succ_lt_succ hj))
    rw [List.find?_cons_of_neg (by rw [h0]; decide)]
    exact ih
theorem find_none {α : Type} (d : α) (p : α → Bool) : ∀ (l : List α), (∀ j, j < l.length → p (l.getD j d) = false) → l.find? p = none
  | [], _ => rfl
  | a :: l, h => by
    have h0 : p a = false := h 0 (Nat.succ_pos _)
    rw [List.find?_cons_of_neg (by rw [h0]; decide)]
    exact find_none d p l (fun j hj => h (j + 1) (Nat.succ_lt_succ hj))
/-- The group of a label. -/
def groupOf (gs : List S52) (name : ByteArray) : Option S52 := gs.find? (fun g => g.f0.toList == name.toList)
/-- The row of a name. -/
def rowOf (l : List S31) (name : ByteArray) : Option S31 := l.find? (fun r => r.f0.toList == name.toList)
theorem lineOf_some (gs : List S52) (name : ByteArray) (A : Option Addr) (c : Nat) (w : World) (hr : Kd.C k52 w A gs.length gs) (hc : gs.length ≤ c) (g : S52) (hg : groupOf gs name = some g) :
    Calls Tryz.prog 29 #[.slice A gs.length c, .string name] w fun e w' => ∃ A2 c2, e = .returned (.tuple #[.agg #[.string g.f0, .string g.f1, .slice A2 g.f2.length c2], .bool true]) ∧ g.f2.length ≤ c2 ∧ Kd.string.C w' A2 g.f2.length g.f2 ∧ Below w.heap.size w w' := by
  refine (lineOf_calls gs name A c w hr hc).mono fun e w' ⟨hB, h⟩ => ?_
  rcases h with ⟨i, hi, he, hn, A2, c2, hr, hl, hC⟩ | ⟨hn, he⟩
  · have := find_first z52 (fun g : S52 => g.f0.toList == name.toList) gs i hi (beq_iff_eq.2 he) (fun j hj => beq_eq_false_iff_ne.2 (hn j hj))
    obtain rfl : gs.getD i z52 = g := Option.some.inj (this.symm.trans hg)
    exact ⟨A2, c2, hr, hl, hC, hB⟩
  · have := find_none z52 (fun g : S52 => g.f0.toList == name.toList) gs (fun j hj => beq_eq_false_iff_ne.2 (hn j hj))
    cases this.symm.trans hg
theorem lineOf_none (gs : List S52) (name : ByteArray) (A : Option Addr) (c : Nat) (w : World) (hr : Kd.C k52 w A gs.length gs) (hc : gs.length ≤ c) (hg : groupOf gs name = none) :
    Calls Tryz.prog 29 #[.slice A gs.length c, .string name] w fun e w' => e = .returned (.tuple #[.agg #[.string ⟨#[]⟩, .string ⟨#[]⟩, .slice none 0 0], .bool false]) ∧ Below w.heap.size w w' := by
  refine (lineOf_calls gs name A c w hr hc).mono fun e w' ⟨hB, h⟩ => ?_
  rcases h with ⟨i, hi, he, hn, A2, c2, hr, hl, hC⟩ | ⟨hn, he⟩
  · have := find_first z52 (fun g : S52 => g.f0.toList == name.toList) gs i hi (beq_iff_eq.2 he) (fun j hj => beq_eq_false_iff_ne.2 (hn j hj))
    cases this.symm.trans hg
  · exact ⟨he, hB⟩
theorem named_some (gs : List S31) (name : ByteArray) (A : Option Addr) (c : Nat) (w : World) (hr : Kd.C k31 w A gs.length gs) (hc : gs.length ≤ c) (g : S31) (hg : rowOf gs name = some g) :
    Calls Tryz.prog 17 #[.slice A gs.length c, .string name] w fun e w' => ∃ A1 c1 A2 c2, e = .returned (.tuple #[.agg #[.string g.f0, .slice A1 g.f1.length c1, .slice A2 g.f2.length c2], .bool true]) ∧ g.f1.length ≤ c1 ∧ (Kd.int .u64).C w' A1 g.f1.length g.f1 ∧ Below w.heap.size w w' := by
  refine (named_calls gs name A c w hr hc).mono fun e w' ⟨hB, h⟩ => ?_
  rcases h with ⟨i, hi, he, hn, A1, c1, A2, c2, hr, hl, hC, _, _⟩ | ⟨hn, he⟩
  · have := find_first z31 (fun g : S31 => g.f0.toList == name.toList) gs i hi (beq_iff_eq.2 he) (fun j hj => beq_eq_false_iff_ne.2 (hn j hj))
    obtain rfl : gs.getD i z31 = g := Option.some.inj (this.symm.trans hg)
    exact ⟨A1, c1, A2, c2, hr, hl, hC, hB⟩
  · have := find_none z31 (fun g : S31 => g.f0.toList == name.toList) gs (fun j hj => beq_eq_false_iff_ne.2 (hn j hj))
    cases this.symm.trans hg
theorem named_none (gs : List S31) (name : ByteArray) (A : Option Addr) (c : Nat) (w : World) (hr : Kd.C k31 w A gs.length gs) (hc : gs.length ≤ c) (hg : rowOf gs name = none) :
    Calls Tryz.prog 17 #[.slice A gs.length c, .string name] w fun e w' => e = .returned (.tuple #[.agg #[.string ⟨#[]⟩, .slice none 0 0, .slice none 0 0], .bool false]) ∧ Below w.heap.size w w' := by
  refine (named_calls gs name A c w hr hc).mono fun e w' ⟨hB, h⟩ => ?_
  rcases h with ⟨i, hi, he, hn, A1, c1, A2, c2, hr, hl, hC, _, _⟩ | ⟨hn, he⟩
  · have := find_first z31 (fun g : S31 => g.f0.toList == name.toList) gs i hi (beq_iff_eq.2 he) (fun j hj => beq_eq_false_iff_ne.2 (hn j hj))
    cases this.symm.trans hg
  · exact ⟨he, hB⟩
end Go.Proofs.YtfcalbjebomgcaaGreatDoor.X
