/- parseLoad at the text of lives. -/
import Derived.Test.YtfcalbjebomgcaaGreatDoorM23
import Derived.Test.YtfcalbjebomgcaaGreatDoorM13
import Derived.Test.YtfcalbjebomgcaaGreatDoorM18
import Derived.StillTailTactics
import Derived.Test.YtfcalbjebomgcaaGreatDoorM20
import Derived.Test.YtfcalbjebomgcaaGreatDoorM14
set_option linter.unusedVariables false
set_option linter.unusedSimpArgs false
namespace Go.Proofs.YtfcalbjebomgcaaGreatDoor.X
open Go.RowKit Go.Proofs.YtfcalbjebomgcaaGreatDoorW.PrintWords Go.Proofs.YtfcalbjebomgcaaGreatDoorW.PrintLast Go.Proofs.YtfcalbjebomgcaaGreatDoorW.PrintMore Go.Proofs.YtfcalbjebomgcaaGreatDoor.Q
attribute [local go_sem] run_store_float

def liveL : List UInt8 := [48, 46, 53, 32, 48, 46, 50, 53, 32, 48, 46, 55, 53, 32, 49, 47, 52, 57, 55, 32, 49, 49, 57, 52, 55, 10]
theorem live_fields : Lib.fields liveL = [[48, 46, 53], [48, 46, 50, 53], [48, 46, 55, 53], [49, 47, 52, 57, 55], [49, 49, 57, 52, 55]] := by decide
theorem live_ascii : ∀ (j : Nat) b, liveL[j]? = some b → b.toNat < 128 := by
  intro j b h
  have hm := List.mem_of_getElem? h
  have h2 : ∀ b ∈ liveL, b.toNat < 128 := by decide
  exact h2 b hm
/-- The blocks of the variables lie below B. -/
def VarsLow (x : Addr) (B : Nat) : Prop := 10 < B ∧ x.block < B
theorem vars_below {x : Addr} {n c B : Nat} {w W : World} (h : VarsAt x n c w) (hl : VarsLow x B) (hb : Below B w W) : VarsAt x n c W := by
  obtain ⟨h6, h7, h10, h1, h2⟩ := h
  obtain ⟨l10, lx⟩ := hl
  exact ⟨(World.cell?_of_block (hb.block 6 (by omega))).trans h6, (World.cell?_of_block (hb.block 7 (by omega))).trans h7, (World.cell?_of_block (hb.block 10 (by omega))).trans h10,
    (World.cell?_of_block (a := ⟨x.block, x.off + 1, none⟩) (hb.block x.block lx)).trans h1, (World.cell?_of_block (a := ⟨x.block, x.off + 2, none⟩) (hb.block x.block lx)).trans h2⟩
theorem make3 (W : World) : (Instr.makeSlice 280 (.int .i64 3) (.int .i64 3)).run Tryz.prog W = .ok (.slice (some ⟨W.heap.size, 0, none⟩) 3 3) (W.alloc (.cells #[.float .f64 0, .float .f64 0, .float .f64 0] 36)) := by
  have hf : (Tryz.prog.info? 36).map (fun i => (i.zero, i.size, i.bytes)) = some (some (.float .f64 0), 1, 8) := by kernel_rfl
  cases hq : Tryz.prog.info? 36 with
  | none => simp [hq] at hf
  | some i =>
    simp [hq] at hf
    obtain ⟨hz, hs, hb⟩ := hf
    have h := run_make (P := Tryz.prog) W 280 36 i (.float .f64 0) Tryz.underlying280 hq hz .i64 .i64 3 3 (by decide) (by decide) (by rw [hb]; decide) (by decide)
    rw [hs, show madeCells (Value.float .f64 0).cells (Int.toNat 3 * 1) = #[.float .f64 0, .float .f64 0, .float .f64 0] from by kernel_rfl] at h
    exact h
set_option maxHeartbeats 8000000 in
set_option maxRecDepth 100000 in
theorem parseLoad_calls (x : Addr) (n c : Nat) (hn : 3 ≤ n) (hnc : n ≤ 1000) (g cp : Nat) (w : World) (h : VarsAt x n c w) (hl : VarsLow x w.heap.size) (htab : Lib.TabIs Tryz.prog w "strings.asciiSpace" .u8 Lib.asciiSpaceTab) (hgl : ∀ g, Tryz.prog.globalNamed "strings.asciiSpace" = some g → g < w.heap.size)
    (hg : ∀ j (hj : j < liveL.length), w.cell? ⟨g, j, none⟩ = some (.int .u8 (liveL[j].toNat : Int))) (hgb : g < w.heap.size) :
    Calls Tryz.prog 125 #[.slice (some ⟨g, 0, none⟩) 26 cp] w fun e w' => ∃ b, e = .returned (.tuple #[.pointer (some ⟨b, 0, none⟩), .nilIface]) ∧ w'.heap[b]? = some (.cells #[.float .f64 4602678819172646912, .float .f64 4598175219545276416, .float .f64 4604930618986332160] 254 (0, 0)) ∧ Below w.heap.size w w' := by
  have h280 := Tryz.underlying280
  have h29 := Tryz.underlying29
  have H := Aside0.mk h
  have HL := Aside0.mk hl
  have HT := Aside0.mk htab
  have HGL := Aside0.mk hgl
  have HG := Aside0.mk hg
  have HGB := Aside0.mk hgb
  clear h hl htab hgl hg hgb
  have hmk := make3
  have hcv : ∀ o : Obj, (convert 139 9 (.slice (some ⟨g, 0, none⟩) 26 cp)).run Tryz.prog (w.alloc o) = .ok (.string ⟨liveL.toArray⟩) (w.alloc o) := fun o =>
    run_convert_bytes_back (P := Tryz.prog) (w.alloc o) 139 9 5 ⟨g, 0, none⟩ cp liveL Tryz.underlying139 Tryz.underlying5 Tryz.underlying9 (fun j hj => by rw [add_plain]; exact (World.cell?_of_block (Below.heap_alloc w o g HGB.out)).trans (HG.out j hj))
  go_enter Tryz.func125, Tryz.ntmps125
  go_wp2_with fail
  refine (Tryz.strings_Fields ⟨liveL.toArray⟩ _ (by decide) live_ascii (tab_below HT.out (below_alloc (Below.refl w.heap.size w) _) HGL.out)).mono ?_
  rintro e w1 ⟨rfl, rfl⟩
  rw [ba_list, live_fields, World.size_alloc]
  clear hmk hcv HG HT
  have hsz : (w.alloc (.cells #[.float .f64 0, .float .f64 0, .float .f64 0] 36)).heap.size = w.heap.size + 1 := World.size_alloc _ _
  simp only [List.map_cons, List.map_nil, List.length_cons, List.length_nil]
  go_wp2_with fail
  refine wp_loop_rounds 4 ?_
  rw [rounds_succ]
  go_wp2_with (go_at_call 129; refine (pf05 x n c hn hnc _ (vars_below H.out HL.out (below_alloc (below_alloc (Below.refl _ _) _) _))).mono ?_; rintro e w' ⟨rfl, rfl⟩)
  rw [rounds_succ]
  go_wp2_with (go_at_call 129; refine (pf025 x n c hn hnc _ (vars_below H.out HL.out (below_alloc (below_alloc (Below.refl _ _) _) _))).mono ?_; rintro e w' ⟨rfl, rfl⟩)
  rw [rounds_succ]
  go_wp2_with (go_at_call 129; refine (pf075 x n c hn hnc _ (vars_below H.out HL.out (below_alloc (below_alloc (Below.refl _ _) _) _))).mono ?_; rintro e w' ⟨rfl, rfl⟩)
  rw [rounds_succ]
  go_wp2_with fail
  have hB := below_alloc (below_alloc (Below.refl w.heap.size w) (.cells #[.float .f64 4602678819172646912, .float .f64 4598175219545276416, .float .f64 4604930618986332160] 36)) (.cells #[.string ⟨#[48, 46, 53]⟩, .string ⟨#[48, 46, 50, 53]⟩, .string ⟨#[48, 46, 55, 53]⟩, .string ⟨#[49, 47, 52, 57, 55]⟩, .string ⟨#[49, 49, 57, 52, 55]⟩] 9)
  have hF := blk_alloc (blk_new w (.cells #[.float .f64 4602678819172646912, .float .f64 4598175219545276416, .float .f64 4604930618986332160] 36)) (.cells #[.string ⟨#[48, 46, 53]⟩, .string ⟨#[48, 46, 50, 53]⟩, .string ⟨#[48, 46, 55, 53]⟩, .string ⟨#[49, 47, 52, 57, 55]⟩, .string ⟨#[49, 49, 57, 52, 55]⟩] 9)
  generalize ((w.alloc (.cells #[.float .f64 4602678819172646912, .float .f64 4598175219545276416, .float .f64 4604930618986332160] 36)).alloc (.cells #[.string ⟨#[48, 46, 53]⟩, .string ⟨#[48, 46, 50, 53]⟩, .string ⟨#[48, 46, 55, 53]⟩, .string ⟨#[49, 47, 52, 57, 55]⟩, .string ⟨#[49, 49, 57, 52, 55]⟩] 9)) = w2 at *
  have HF := Aside0.mk (And.intro hF hB)
  have c0 : w2.cell? ⟨w.heap.size, 0, none⟩ = some (.float .f64 4602678819172646912) := (blk_cell hF 0).trans rfl
  have c1 : w2.cell? ⟨w.heap.size, 1, none⟩ = some (.float .f64 4598175219545276416) := (blk_cell hF 1).trans rfl
  have c2 : w2.cell? ⟨w.heap.size, 2, none⟩ = some (.float .f64 4604930618986332160) := (blk_cell hF 2).trans rfl
  have hu254 := Tryz.underlying254
  clear hF hB hsz
  go_still_tail 10, (by kernel_rfl)
  change wpList _ _ _ _ _ w2.drew
  have HB2 := Aside0.mk (below_drew HF.out.2)
  generalize w2.drew = w3 at *
  go_wp2_with fail
  go_ret2
  exact ⟨_, rfl, blk_new _ _, below_alloc HB2.out _⟩
end Go.Proofs.YtfcalbjebomgcaaGreatDoor.X

/- The door Loadavg at the text of lives. -/
namespace Go.Proofs.YtfcalbjebomgcaaGreatDoor.X
open Go.RowKit Go.Proofs.YtfcalbjebomgcaaGreatDoorW.PrintWords Go.Proofs.YtfcalbjebomgcaaGreatDoorW.PrintLast Go.Proofs.YtfcalbjebomgcaaGreatDoorW.PrintMore Go.Proofs.YtfcalbjebomgcaaGreatDoor.Q
attribute [local go_sem] run_store_float

/-- What the world must hold for lives. -/
structure LiveAt (x : Addr) (n c : Nat) (w : World) : Prop where
  n3 : 3 ≤ n
  n1000 : n ≤ 1000
  vars : VarsAt x n c w
  low : VarsLow x w.heap.size
  tab : Lib.TabIs Tryz.prog w "strings.asciiSpace" .u8 Lib.asciiSpaceTab
  gl : ∀ g, Tryz.prog.globalNamed "strings.asciiSpace" = some g → g < w.heap.size
theorem LiveAt.below {x : Addr} {n c B : Nat} {w W : World} (h : LiveAt x n c w) (hb : Below B w W) (hB : w.heap.size ≤ B) : LiveAt x n c W :=
  have hb' : Below w.heap.size w W := below_low (Below.refl _ _) hb hB
  ⟨h.n3, h.n1000, vars_below h.vars h.low hb', ⟨Nat.lt_of_lt_of_le h.low.1 hb.size, Nat.lt_of_lt_of_le h.low.2 hb.size⟩, tab_below h.tab hb' h.gl, fun g hg => Nat.lt_of_lt_of_le (h.gl g hg) hb.size⟩
def liveT : ByteArray := ⟨liveL.toArray⟩
set_option maxHeartbeats 8000000 in
set_option maxRecDepth 100000 in
theorem loadAvg_calls (x : Addr) (n c : Nat) (w : World) (h : LiveAt x n c w) :
    Calls Tryz.prog 113 #[.agg #[.string liveT]] w fun e w' => ∃ b, e = .returned (.tuple #[.pointer (some ⟨b, 0, none⟩), .nilIface]) ∧ w'.heap[b]? = some (.cells #[.float .f64 4602678819172646912, .float .f64 4598175219545276416, .float .f64 4604930618986332160] 254 (0, 0)) ∧ Below w.heap.size w w' := by
  have H := Aside0.mk h
  clear h
  have hu250 := Tryz.underlying250
  have hsz : liveT.size = 26 := rfl
  have hcv : ∀ W : World, (convert 9 139 (.string liveT)).run Tryz.prog W = .ok (.slice (some ⟨W.heap.size, 0, none⟩) 26 (grownCap W 26 0 5)) (Lib.bytesWorld W 5 liveT) := fun W =>
    Lib.run_convert_string_bytes (P := Tryz.prog) W 9 139 5 liveT Tryz.underlying9 Tryz.underlying139 Tryz.underlying5
  have HSZ := Aside0.mk hsz
  have HB : Aside0 (∀ (W : World) (j : Nat) (hj : j < liveL.length), (Lib.bytesWorld W 5 liveT).cell? ⟨W.heap.size, j, none⟩ = some (.int .u8 (liveL[j].toNat : Int))) := ⟨fun W j hj => by
    rw [Lib.bytesWorld_cell W 5 liveT j hj]
    show some (Value.int .u8 ((liveL.getD j 0).toNat : Int)) = _
    rw [List.getD_eq_getElem?_getD, List.getElem?_eq_getElem hj]; rfl⟩
  generalize liveT = T at *
  go_enter Tryz.func113, Tryz.ntmps113
  go_wp2_with (first | (go_at_call 123; go_in) | (go_at_call 124; go_in))
  have hs2 : ((w.alloc (.cells #[.string T] 250)).alloc (.cells #[.string ⟨#[108, 111, 97, 100, 97, 118, 103]⟩] 9)).heap.size = w.heap.size + 1 + 1 := by rw [World.size_alloc, World.size_alloc]
  have hb2 := below_alloc (below_alloc (Below.refl w.heap.size w) (.cells #[.string T] 250)) (.cells #[.string ⟨#[108, 111, 97, 100, 97, 118, 103]⟩] 9)
  rw [← hs2]
  generalize ((w.alloc (.cells #[.string T] 250)).alloc (.cells #[.string ⟨#[108, 111, 97, 100, 97, 118, 103]⟩] 9)) = w2 at *
  have hb3 := Lib.bytesWorld_below w2 5 T
  have hsz3 := Lib.bytesWorld_size w2 5 T
  have HB2 := Aside0.mk (HB.out w2)
  have HBel := Aside0.mk (below_step hb2 hb3)
  clear HB hcv hb2 hb3
  generalize Lib.bytesWorld w2 5 T = w3 at *
  have HL := H.out.below HBel.out (Nat.le_refl _)
  refine (parseLoad_calls x n c HL.n3 HL.n1000 w2.heap.size _ w3 HL.vars HL.low HL.tab HL.gl HB2.out (by omega)).mono ?_
  rintro e w4 ⟨b, rfl, h1, h2⟩
  have HF := Aside0.mk (And.intro h1 (below_step HBel.out h2))
  clear h1 h2 HL HB2 HBel hsz3 hs2
  generalize grownCap w2 26 0 5 = cp at *
  generalize w2.heap.size = gb at *
  go_wp2_with fail
  go_ret2
  exact ⟨b, rfl, HF.out⟩
end Go.Proofs.YtfcalbjebomgcaaGreatDoor.X

/- The record of a LoadAvg: three floats. -/
namespace Go.Proofs.YtfcalbjebomgcaaGreatDoor.X
open Go.RowKit Go.Proofs.YtfcalbjebomgcaaGreatDoorW.PrintWords Go.Proofs.YtfcalbjebomgcaaGreatDoorW.PrintLast Go.Proofs.YtfcalbjebomgcaaGreatDoorW.PrintMore Go.Proofs.YtfcalbjebomgcaaGreatDoor.Q
attribute [local go_sem] run_store_float

def floatM (name : ByteArray) (f : Nat) : S43 := ⟨name, 4, false, 0, 0, f, ⟨#[]⟩, []⟩
def fieldOpsF (pos : String) (T j s : Nat) (name : ByteArray) : List Oper :=
  [mkO pos (some s) (.fieldAddr 43 (.tmp 5) 7) 0 [],
   mkO pos (some (s + 1)) (.load 41 (.tmp s)) 41 [⟨0, .data⟩],
   mkO pos (some (s + 2)) (.fieldAddr T (.tmp 3) j) 0 [],
   mkO pos (some (s + 3)) (.load 36 (.tmp (s + 2))) 36 [⟨2, .data⟩],
   mkO pos (some (s + 4)) (.build 43 #[(0, .const (.string name)), (1, .const (.int .i64 4)), (5, .tmp (s + 3))]) 43 [⟨3, .data⟩],
   mkO pos (some (s + 5)) (.buildSlice 41 1 #[(0, .tmp (s + 4))]) 41 [⟨4, .data⟩],
   mkO pos (some (s + 6)) (.call { callee := .builtin .append, args := #[.tmp (s + 1), .tmp (s + 5)], argTypes := #[41, 41] }) 41 [⟨1, .data⟩, ⟨5, .data⟩],
   mkO pos (some (s + 7)) (.fieldAddr 43 (.tmp 5) 7) 0 (ph 7),
   mkO pos none (.store 41 (.tmp (s + 7)) (.tmp (s + 6))) 0 (⟨7, .data⟩ :: ⟨6, .data⟩ :: ⟨6, .chain⟩ :: ph 7)]
theorem o_load36 (a : Act) (b : Nat) (W : World) (pos : String) (s t j : Nat) (v : Value) (af : List Edge) (h5 : a.eval (.tmp t) = .pointer (some ⟨b, j, none⟩)) (hc : W.cell? ⟨b, j, none⟩ = some v) :
  (execOp a.eval (mkO pos (some s) (.load 36 (.tmp t)) 36 af)).run Tryz.prog W = .ok (.value v) W := by
  have hu := Tryz.underlying36
  simp only [execOp, mkO, h5]
  go_simp
theorem o_build4 (a : Act) (W : World) (pos : String) (s t : Nat) (name : ByteArray) (n : Nat) (af : List Edge) (h : a.eval (.tmp t) = .float .f64 n) :
  (execOp a.eval (mkO pos (some s) (.build 43 #[(0, .const (.string name)), (1, .const (.int .i64 4)), (5, .tmp t)]) 43 af)).run Tryz.prog W = .ok (.value (.agg #[.string name, .int .i64 4, .bool false, .int .i64 0, .int .u64 0, .float .f64 n, .string ⟨#[]⟩, .slice none 0 0])) W := by
  have hu := Tryz.underlying43
  have h' : a.tmps[t]?.getD undef = .float .f64 n := by rw [← h]; simp [Act.eval]
  simp only [execOp, mkO]
  go_simp
theorem float_tail {w W : World} {T : TypeId} {name fname : ByteArray} {args : Array Value} {v : Value} {xs : List S43} {n : Nat} {a : Act} {s : Nat} {pos : String} {ops : Array Oper} {Q : Exit → Act → World → Prop} {af0 af1 af2 af3 af4 : List Edge} {d : Nat}
    (hB : BSt w T name args W v xs) (hlen : xs.length ≤ 1000) (hsz : d + 4 ≤ a.tmps.size) (hd : 5 < s ∧ s + 1 < d)
    (h5 : a.eval (.tmp 5) = .pointer (some ⟨w.heap.size + 2, 0, none⟩)) (h1 : a.eval (.tmp (s + 1)) = v) (hu : a.eval (.tmp (d - 1)) = .float .f64 n)
    (k : ∀ a' W' v', (∀ t, t < d → a'.eval (.tmp t) = a.eval (.tmp t)) → a'.tmps.size = a.tmps.size → a'.defers = a.defers → BSt w T name args W' v' (xs ++ [floatM fname n]) → Q .normal a' W') :
    wpList Tryz.prog ops Q [mkO pos (some d) (.build 43 #[(0, .const (.string fname)), (1, .const (.int .i64 4)), (5, .tmp (d - 1))]) 43 af0, mkO pos (some (d + 1)) (.buildSlice 41 1 #[(0, .tmp d)]) 41 af1, mkO pos (some (d + 2)) (.call { callee := .builtin .append, args := #[.tmp (s + 1), .tmp (d + 1)], argTypes := #[41, 41] }) 41 af2, mkO pos (some (d + 3)) (.fieldAddr 43 (.tmp 5) 7) 0 af3, mkO pos none (.store 41 (.tmp (d + 3)) (.tmp (d + 2))) 0 af4] a W := by
  have hlt := blk_lt hB.2.2.2.1
  refine Kd.event_run rfl (o_build4 _ _ _ _ _ fname n _ hu) ?_
  refine Kd.event_run rfl (o_slice _ _ _ _ _ _ _ _ _ _ _ _ _ _ (ev_same (by omega))) ?_
  refine Kd.N_append k43 (w0 := w) w.heap.size rfl (.tmp (s + 1)) (.tmp (d + 1)) 41 43 (.agg #[.string ⟨#[]⟩, .int .i64 0, .bool false, .int .i64 0, .int .u64 0, .float .f64 0, .string ⟨#[]⟩, .slice none 0 0]) 96 rfl Tryz.underlying41 info43 rfl (by decide) (by decide) v xs (floatM fname n) [.string fname, .int .i64 4, .bool false, .int .i64 0, .int .u64 0, .float .f64 n, .string ⟨#[]⟩, .slice none 0 0] (fun k => w.heap.size + 3 ≤ k) (fun _ => False) ?_ ?_ (k43_mkF W _ (floatM fname n) (Nat.le_refl 0) (Kd.F_nil k43 W _)) (fun _ hk => hk.elim) (fun k hk => by omega) hB.1 hB.2.2.2.2 hB.2.2.2.2.size (by omega) ?_
  · simp only [mkO]
    rw [ev_other (by omega), ev_other (by omega)]
    exact h1
  · simp only [mkO]
    rw [ev_same (by simp only [size_put]; omega)]
  intro v1 w1 ho hb hg hat
  have hne : ∀ g, g < w.heap.size + 3 → some g ≠ v.ownBlock := fun g hg he => by have := hB.1.1 g he.symm; omega
  have b0 := blk_grown hB.2.1 hg (hne _ (by omega))
  have b1 := blk_grown hB.2.2.1 hg (hne _ (by omega))
  have b2 := blk_grown hB.2.2.2.1 hg (hne _ (by omega))
  obtain ⟨A1, c1, rfl⟩ := Kd.N_slice ho
  refine Kd.event_run rfl (o_addr7 _ (w.heap.size + 2) _ _ _ _ _ ?_) ?_
  · simp only [mkO]
    rw [ev_other (by omega), ev_other (by omega), ev_other (by omega)]
    exact h5
  refine event_skip rfl rfl (o_store41 _ (w.heap.size + 2) _ _ _ _ A1 (xs ++ [floatM fname n]).length c1 _ ?_ ?_ _ ((blk_cell b2 7).trans rfl) (blk_frozen b2 7)) ?_
  · simp only [mkO]
    rw [ev_same (by simp only [size_put]; omega)]
  · simp only [mkO]
    rw [ev_other (by omega), ev_same (by simp only [size_put]; omega)]
  refine k _ _ (.slice A1 (xs ++ [floatM fname n]).length c1) ?_ ?_ rfl ⟨?_, ?_, ?_, ?_, ?_⟩
  · intro t ht
    simp only [mkO]
    rw [ev_other (by omega), ev_other (by omega), ev_other (by omega), ev_other (by omega)]
  · simp only [mkO, size_put]
  · exact Kd.N_far ho (fun k hk => by show k ≠ w.heap.size + 2; omega) _
  · exact (Below.heap_setCell _ _ _ _ (by show w.heap.size ≠ w.heap.size + 2; omega)).trans b0
  · exact (Below.heap_setCell _ _ _ _ (by show w.heap.size + 1 ≠ w.heap.size + 2; omega)).trans b1
  · exact blk_put b2 7 _ rfl
  · exact below_set hb (by omega)

theorem fieldFloat {w W : World} {T : TypeId} {name fname : ByteArray} {args : Array Value} {v : Value} {xs : List S43} {n : Nat} {a : Act} {s j r : Nat} {pos : String} {Q : Exit → Act → World → Prop} {last : Code}
    (hB : BSt w T name args W v xs) (hlen : xs.length ≤ 1000) (hsz : s + 8 ≤ a.tmps.size) (hs : 5 < s) (hT : FieldIs T j 36)
    (hn : args[j]? = some (.float .f64 n))
    (h3 : a.eval (.tmp 3) = .pointer (some ⟨w.heap.size, 0, none⟩)) (h5 : a.eval (.tmp 5) = .pointer (some ⟨w.heap.size + 2, 0, none⟩))
    (k : ∀ a' W' v', (∀ t, t < s → a'.eval (.tmp t) = a.eval (.tmp t)) → a'.tmps.size = a.tmps.size → a'.defers = a.defers → BSt w T name args W' v' (xs ++ [floatM fname n]) → last.wp Tryz.prog Q a' W') :
    (Code.seq (.region r (fieldOpsF pos T j s fname).toArray false) last).wp Tryz.prog Q a W := by
  obtain ⟨fs, f, hu, hj, ho, ht⟩ := hT
  refine wp_seq (wp_region_lit ?_)
  unfold fieldOpsF
  refine Kd.event_run rfl (o_addr7 _ (w.heap.size + 2) _ _ _ _ _ h5) ?_
  refine Kd.event_run rfl (o_load41 _ (w.heap.size + 2) _ _ _ _ 7 v _ (by simp only [mkO]; rw [ev_same (by omega)]) ((blk_cell hB.2.2.2.1 7).trans rfl)) ?_
  refine Kd.event_run rfl (o_addrO _ w.heap.size _ _ _ _ _ j 0 T _ (by simp only [mkO]; rw [ev_other (by omega), ev_other (by omega)]; exact h3) fs hu f hj ho (by rw [ht]; kernel_rfl)) ?_
  refine Kd.event_run rfl (o_load36 _ w.heap.size _ _ _ _ j (.float .f64 n) _ (by simp only [mkO]; rw [ev_same (by simp only [size_put]; omega)]) ((blk_cell hB.2.1 j).trans hn)) ?_
  refine float_tail (d := s + 4) (s := s) (fname := fname) (n := n) (xs := xs) hB hlen ?_ ⟨hs, by omega⟩ ?_ ?_ ?_ ?_
  · simp only [mkO, size_put]; omega
  · simp only [mkO]; rw [ev_other (by omega), ev_other (by omega), ev_other (by omega), ev_other (by omega)]; exact h5
  · simp only [mkO]; rw [ev_other (by omega), ev_other (by omega), ev_same (by simp only [size_put]; omega)]
  · simp only [mkO]; rw [show s + 4 - 1 = s + 3 from rfl, ev_same (by simp only [size_put]; omega)]
  · intro a' W' v' h1 h2 h3' h4
    refine k a' W' v' (fun t ht => ?_) ?_ ?_ h4
    · rw [h1 t (by omega)]
      simp only [mkO]; rw [ev_other (by omega), ev_other (by omega), ev_other (by omega), ev_other (by omega)]
    · rw [h2]; simp only [mkO, size_put]
    · rw [h3']; rfl


theorem body116 : Tryz.f116.body = some (.seq (.region 0 #[mkO "nodes.go:140" (some 3) (.box 254 (.tmp 1)) 0 [], mkO "nodes.go:140" (some 4) (.alloc 43) 0 []] false)
      (.seq (.region 1 #[mkO "nodes.go:141" (some 6) (.move (.tmp 0)) 9 [], mkO "nodes.go:141" (some 7) (.build 43 #[(0, .tmp 6), (1, .const (.int .i64 8))]) 43 [⟨0, .data⟩], mkO "nodes.go:141" (some 5) (.alloc 43) 0 [], mkO "nodes.go:141" none (.store 43 (.tmp 5) (.tmp 7)) 0 [⟨2, .data⟩, ⟨1, .data⟩, ⟨0, .phase⟩, ⟨1, .phase⟩, ⟨2, .phase⟩]] false)
        (.seq (.region 2 (fieldOpsF "nodes.go:142" 254 0 8 ⟨#[76, 111, 97, 100, 49]⟩).toArray false) (.seq (.region 3 (fieldOpsF "nodes.go:143" 254 1 16 ⟨#[76, 111, 97, 100, 53]⟩).toArray false) (.seq (.region 4 (fieldOpsF "nodes.go:144" 254 2 24 ⟨#[76, 111, 97, 100, 49, 53]⟩).toArray false)
          (fieldsCode false 254 "nodes.go:145" [] 5 3 32)))))) := by kernel_rfl
def loadKids : List S43 := [floatM ⟨#[76, 111, 97, 100, 49]⟩ 4602678819172646912, floatM ⟨#[76, 111, 97, 100, 53]⟩ 4598175219545276416, floatM ⟨#[76, 111, 97, 100, 49, 53]⟩ 4604930618986332160]
def loadArgs : Array Value := #[.float .f64 4602678819172646912, .float .f64 4598175219545276416, .float .f64 4604930618986332160]
theorem field254 : ∀ i, i < 3 → FieldIs 254 i 36 := fieldIs_all (n := 3) Tryz.underlying254 (by kernel_rfl)
set_option maxRecDepth 100000 in
set_option maxHeartbeats 2000000 in
theorem load116 (name : ByteArray) (w : World) : Calls Tryz.prog 116 #[.string name, .agg loadArgs] w (RecPost w name loadKids) := by
  refine calls_of_wp Tryz.func116 body116 ?_
  obtain ⟨args, hargs⟩ : ∃ args, args = loadArgs := ⟨_, rfl⟩
  rw [← hargs]
  obtain ⟨a, ha⟩ : ∃ a : Act, a = { tmps := #[.string name, .agg args] ++ Array.replicate (Tryz.f116.ntmps - (#[.string name, .agg args] : Array Value).size) undef, defers := [] } := ⟨_, rfl⟩
  rw [← ha]
  have e0 : a.eval (.tmp 0) = .string name := by rw [ha]; simp only [Act.eval, Array.getD_eq_getD_getElem?]; rw [Array.getElem?_append_left (by simp)]; rfl
  have e1 : a.eval (.tmp 1) = .agg args := by rw [ha]; simp only [Act.eval, Array.getD_eq_getD_getElem?]; rw [Array.getElem?_append_left (by simp)]; rfl
  have hd : a.defers = [] := by rw [ha]
  have hsz : a.tmps.size = 33 := by
    rw [ha]
    have : Tryz.f116.ntmps = 33 := Tryz.ntmps116
    simp [this]
  clear ha
  refine head_wp 254 _ _ _ _ name args a w e0 e1 (by omega) ?_
  intro a1 W1 q1 q2 q3 q4 q5 q6
  refine fieldFloat q6 (by decide) (by omega) (by omega) (field254 0 (by omega)) (n := 4602678819172646912) (by rw [hargs]; rfl) q3 q5 ?_
  intro a2 W2 v2 r1 r2 r3 r4
  refine fieldFloat r4 (by decide) (by omega) (by omega) (field254 1 (by omega)) (n := 4598175219545276416) (by rw [hargs]; rfl) (by rw [r1 3 (by omega)]; exact q3) (by rw [r1 5 (by omega)]; exact q5) ?_
  intro a3 W3 v3 s1 s2 s3 s4
  refine fieldFloat s4 (by decide) (by omega) (by omega) (field254 2 (by omega)) (n := 4604930618986332160) (by rw [hargs]; rfl) (by rw [s1 3 (by omega), r1 3 (by omega)]; exact q3) (by rw [s1 5 (by omega), r1 5 (by omega)]; exact q5) ?_
  intro a4 W4 v4 t1 t2 t3 t4
  have h := fields_wp false 254 "nodes.go:145" Tryz.f116 rfl w name args [] [] 5 3 32 a4 W4 v4 _ rfl t4 (by decide) (by simp; omega) (by omega) (fun i hi => absurd hi (Nat.not_lt_zero i)) (fun i n hn => by simp at hn) (by rw [t1 3 (by omega), s1 3 (by omega), r1 3 (by omega)]; exact q3) (by rw [t1 4 (by omega), s1 4 (by omega), r1 4 (by omega)]; exact q4) (by rw [t1 5 (by omega), s1 5 (by omega), r1 5 (by omega)]; exact q5) (by rw [t3, s3, r3, q2, hd])
  exact h
end Go.Proofs.YtfcalbjebomgcaaGreatDoor.X
