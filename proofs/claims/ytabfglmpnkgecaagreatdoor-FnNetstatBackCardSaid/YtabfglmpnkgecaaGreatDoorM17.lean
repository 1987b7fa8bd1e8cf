/- The door Loadavg's closure and tree. -/
import Derived.Test.YtabfglmpnkgecaaGreatDoorM02
import Derived.Test.YtabfglmpnkgecaaGreatDoorM16
import Derived.Defers
import Derived.Recover
set_option linter.unusedVariables false
set_option linter.unusedSimpArgs false
namespace Go.Proofs.YtabfglmpnkgecaaGreatDoor.X
open Go.RowKit Go.Proofs.YtabfglmpnkgecaaGreatDoorW.PrintWords Go.Proofs.YtabfglmpnkgecaaGreatDoorW.PrintLast Go.Proofs.YtabfglmpnkgecaaGreatDoorW.PrintMore Go.Proofs.YtabfglmpnkgecaaGreatDoor.Q
attribute [local go_sem] run_store_float

theorem results_cs {fn : Func} {p p' : Tmp} (h : fn.results = #[.cell p 43, .cell p' 3]) (tmps : Array Value) (w : World) (g g' : Nat) (t : TypeId) (cs : Array Value) (fr : Nat × Nat) (v : Value)
    (hp : tmps.getD p undef = .pointer (some ⟨g, 0, none⟩)) (hp' : tmps.getD p' undef = .pointer (some ⟨g', 0, none⟩)) (hg : w.heap[g]? = some (.cells cs t fr))
    (hi : (Tryz.prog.info? 43).map (·.size) = some cs.size) (hc : w.cell? ⟨g', 0, none⟩ = some v) :
    (results fn tmps).run Tryz.prog w = .ok (.tuple #[.agg cs, v]) w := by
  have q : tmps[p]?.getD undef = .pointer (some ⟨g, 0, none⟩) := by simpa using hp
  have q' : tmps[p']?.getD undef = .pointer (some ⟨g', 0, none⟩) := by simpa using hp'
  have hu3 := Tryz.underlying3
  have hl : (loadVar 3 ⟨g', 0, none⟩).run Tryz.prog w = .ok v w := by
    go_simp
  simp [results, h, q, q', asAddr, run_loadVar_row w g t 43 cs fr _ hg Tryz.underlying43 rfl hi, hl]
set_option maxHeartbeats 4000000 in
set_option maxRecDepth 100000 in
theorem pointerL_calls (name : ByteArray) (args : Array Value) (xs : List S43) (hn : args.toList.length = 3) (hc : ∀ w1, Calls Tryz.prog 44 #[.string name, .agg args] w1 (RecPost w1 name xs)) (b : Nat) (w : World) (hb : w.heap[b]? = some (.cells args 93 (0, 0))) :
    Calls Tryz.prog 43 #[.string name, .pointer (some ⟨b, 0, none⟩), .func (.func 44) #[] #[]] w (RecPost w name xs) := by
  have hu43 := Tryz.underlying43
  have HC := Aside0.mk hc
  have HB := Aside0.mk hb
  have HN := Aside0.mk hn
  clear hc hb hn
  go_enter Tryz.func43, Tryz.ntmps43
  go_wp2_with ((with_reducible refine gate_dst (N := 15) rfl ?_); refine wpList_load_mid rfl 93 (.tmp 14) rfl b 0 rfl args.toList _ ?hr Tryz.underlying93 rfl (by rw [HN.out]; kernel_rfl) ?_; (case hr => intro j v hj; rw [Nat.zero_add]; exact (blk_cell (blk_alloc HB.out _) j).trans (by rw [← Array.getElem?_toList]; exact hj)))
  have hZ0 := blk_new w (.cells #[.string ⟨#[]⟩, .int .i64 0, .bool false, .int .i64 0, .int .u64 0, .float .f64 0, .string ⟨#[]⟩, .slice none 0 0] 43 (0, 0))
  have hB0 := below_alloc (Below.refl w.heap.size w) (.cells #[.string ⟨#[]⟩, .int .i64 0, .bool false, .int .i64 0, .int .u64 0, .float .f64 0, .string ⟨#[]⟩, .slice none 0 0] 43 (0, 0))
  have hs0 : (w.alloc (.cells #[.string ⟨#[]⟩, .int .i64 0, .bool false, .int .i64 0, .int .u64 0, .float .f64 0, .string ⟨#[]⟩, .slice none 0 0] 43 (0, 0))).heap.size = w.heap.size + 1 := World.size_alloc _ _
  refine (HC.out _).mono ?_
  rintro e w2 ⟨A, c, rfl, hl, hF, hB2⟩
  have HZ := Aside0.mk (blk_below hZ0 hB2)
  have HB2 := Aside0.mk (below_step hB0 hB2)
  have HF := Aside0.mk (Kd.F_mono hF (ok' := fun k => w.heap.size + 1 ≤ k) (fun k hk => by omega))
  have HL := Aside0.mk hl
  clear hZ0 hB0 hs0 hF hB2 hl
  have z0 : ∀ j, w2.cell? ⟨w.heap.size, j, none⟩ = (#[.string ⟨#[]⟩, .int .i64 0, .bool false, .int .i64 0, .int .u64 0, .float .f64 0, .string ⟨#[]⟩, .slice none 0 0] : Array Value)[j]? := fun j => (blk_cell HZ.out j)
  have f0 : ∀ j, w2.frozen? ⟨w.heap.size, j, none⟩ = false := fun j => blk_frozen HZ.out j
  go_wp2_with fail
  refine bodyPost_ret (results_cell_row rfl _ _ w.heap.size 43 _ (0, 0) _ rfl (put8 HZ.out _ _ _ _ _ _ _ _) hu43 rfl (by kernel_rfl)) rfl ?_
  refine ⟨A, c, rfl, HL.out, ?_, below_put8 HB2.out (Nat.le_refl _) _ _ _ _ _ _ _ _⟩
  exact Kd.F_mono (Kd.V_at (V_put8 (Kd.V_mk (e := 43) (base := 0) HL.out HF.out) (fun k hk => by show k ≠ w.heap.size; omega) _ _ _ _ _ _ _ _)).2.2 (fun k hk => by omega)
set_option maxHeartbeats 4000000 in
set_option maxRecDepth 100000 in
theorem doorL_calls (args : Array Value) (xs : List S43) (hn : args.toList.length = 3) (hc : ∀ w1, Calls Tryz.prog 44 #[.string ⟨#[]⟩, .agg args] w1 (RecPost w1 ⟨#[]⟩ xs)) (b : Nat) (w : World) (hb : w.heap[b]? = some (.cells args 93 (0, 0))) :
    Calls Tryz.prog 42 #[.pointer (some ⟨b, 0, none⟩)] w (RecPost w ⟨#[]⟩ xs) := by
  have hu43 := Tryz.underlying43
  have HC := Aside0.mk hc
  have HB := Aside0.mk hb
  have HN := Aside0.mk hn
  clear hc hb hn
  go_enter Tryz.func42, Tryz.ntmps42
  go_wp2_with fail
  have hZ0 := blk_new w (.cells #[.string ⟨#[]⟩, .int .i64 0, .bool false, .int .i64 0, .int .u64 0, .float .f64 0, .string ⟨#[]⟩, .slice none 0 0] 43 (0, 0))
  have hB0 := below_alloc (Below.refl w.heap.size w) (.cells #[.string ⟨#[]⟩, .int .i64 0, .bool false, .int .i64 0, .int .u64 0, .float .f64 0, .string ⟨#[]⟩, .slice none 0 0] 43 (0, 0))
  have hs0 : (w.alloc (.cells #[.string ⟨#[]⟩, .int .i64 0, .bool false, .int .i64 0, .int .u64 0, .float .f64 0, .string ⟨#[]⟩, .slice none 0 0] 43 (0, 0))).heap.size = w.heap.size + 1 := World.size_alloc _ _
  refine (pointerL_calls ⟨#[]⟩ args xs HN.out HC.out b _ (blk_alloc HB.out _)).mono ?_
  rintro e w2 ⟨A, c, rfl, hl, hF, hB2⟩
  have HZ := Aside0.mk (blk_below hZ0 hB2)
  have HB2 := Aside0.mk (below_step hB0 hB2)
  have HF := Aside0.mk (Kd.F_mono hF (ok' := fun k => w.heap.size + 1 ≤ k) (fun k hk => by omega))
  have HL := Aside0.mk hl
  clear hZ0 hB0 hs0 hF hB2 hl
  have z0 : ∀ j, w2.cell? ⟨w.heap.size, j, none⟩ = (#[.string ⟨#[]⟩, .int .i64 0, .bool false, .int .i64 0, .int .u64 0, .float .f64 0, .string ⟨#[]⟩, .slice none 0 0] : Array Value)[j]? := fun j => (blk_cell HZ.out j)
  have f0 : ∀ j, w2.frozen? ⟨w.heap.size, j, none⟩ = false := fun j => blk_frozen HZ.out j
  go_wp2_with fail
  refine bodyPost_ret (results_cell_row rfl _ _ w.heap.size 43 _ (0, 0) _ rfl (put8 HZ.out _ _ _ _ _ _ _ _) hu43 rfl (by kernel_rfl)) rfl ?_
  refine ⟨A, c, rfl, HL.out, ?_, below_put8 HB2.out (Nat.le_refl _) _ _ _ _ _ _ _ _⟩
  exact Kd.F_mono (Kd.V_at (V_put8 (Kd.V_mk (e := 43) (base := 0) HL.out HF.out) (fun k hk => by show k ≠ w.heap.size; omega) _ _ _ _ _ _ _ _)).2.2 (fun k hk => by omega)
theorem catch122_idle (p q : Value) (w : World) :
    CallsD Tryz.prog 197 #[p, q] .returning w fun e u' w' => e = .returned (.tuple #[]) ∧ u' = .returning ∧ w' = w := by
  refine callsD_of_wpS Tryz.func197 rfl fun c₀ cs hu => ?_
  apply wpS_seq
  apply wpS_region
  simp [wpOpsS, go_sem, recoverD, hu, Tryz.ntmps197, Exit.thenS]
  refine wpS_cond (t := false) (by simp [Act.eval, Array.replicate]) ?_
  simp only [Bool.false_eq_true, if_false]
  refine wpS_of_wp (wp_skip ?_)
  cases c₀
  simp_all [bodyPostS, results, Tryz.results197]
set_option maxHeartbeats 4000000 in
set_option maxRecDepth 100000 in
theorem tree111_calls (xs : List S43) (av : Value) (w : World)
    (h20 : ∀ W : World, Below w.heap.size w W → Calls Tryz.prog 41 #[av] W (fun e w' => ∃ b, e = .returned (.tuple #[.pointer (some ⟨b, 0, none⟩), .nilIface]) ∧ w'.heap[b]? = some (.cells loadArgs 93 (0, 0)) ∧ Below W.heap.size W w')) (h23 : ∀ (b : Nat) (W : World), W.heap[b]? = some (.cells loadArgs 93 (0, 0)) → Calls Tryz.prog 42 #[.pointer (some ⟨b, 0, none⟩)] W (RecPost W ⟨#[]⟩ xs)) :
    Calls Tryz.prog 40 #[.func (.func 41) #[av] #[], .func (.func 42) #[] #[]] w fun e w' => ∃ A c, e = .returned (.tuple #[.agg #[.string ⟨#[]⟩, .int .i64 8, .bool false, .int .i64 0, .int .u64 0, .float .f64 0, .string ⟨#[]⟩, .slice A xs.length c], .int .i64 0]) ∧ xs.length ≤ c ∧ Kd.F k43 w' (fun k => w.heap.size + 2 ≤ k) A xs.length xs ∧ Below w.heap.size w w' := by
  have hu43 := Tryz.underlying43
  have hmf : ∀ (fn : Fn) (first cap : Array Value) (w : World), (Instr.makeFunc fn first cap).run Tryz.prog w = .ok (.func fn first cap) w := fun _ _ _ _ => rfl
  have H20 := Aside0.mk h20
  have H23 := Aside0.mk h23
  clear h20 h23
  go_enter_defers Tryz.func40, Tryz.ntmps40
  go_wp2_with fail
  have hZ := blk_alloc (blk_new w (.cells #[.string ⟨#[]⟩, .int .i64 0, .bool false, .int .i64 0, .int .u64 0, .float .f64 0, .string ⟨#[]⟩, .slice none 0 0] 43 (0, 0))) (.cells #[.int .i64 0] 3 (0, 0))
  have hO := blk_new (w.alloc (.cells #[.string ⟨#[]⟩, .int .i64 0, .bool false, .int .i64 0, .int .u64 0, .float .f64 0, .string ⟨#[]⟩, .slice none 0 0] 43 (0, 0))) (.cells #[.int .i64 0] 3 (0, 0))
  have hB := below_alloc (below_alloc (Below.refl w.heap.size w) (.cells #[.string ⟨#[]⟩, .int .i64 0, .bool false, .int .i64 0, .int .u64 0, .float .f64 0, .string ⟨#[]⟩, .slice none 0 0] 43 (0, 0))) (.cells #[.int .i64 0] 3 (0, 0))
  have hs1 := World.size_alloc w (.cells #[.string ⟨#[]⟩, .int .i64 0, .bool false, .int .i64 0, .int .u64 0, .float .f64 0, .string ⟨#[]⟩, .slice none 0 0] 43 (0, 0))
  have hs2 := World.size_alloc (w.alloc (.cells #[.string ⟨#[]⟩, .int .i64 0, .bool false, .int .i64 0, .int .u64 0, .float .f64 0, .string ⟨#[]⟩, .slice none 0 0] 43 (0, 0))) (.cells #[.int .i64 0] 3 (0, 0))
  rw [hs1] at hO
  have HS : Aside0 (((w.alloc (.cells #[.string ⟨#[]⟩, .int .i64 0, .bool false, .int .i64 0, .int .u64 0, .float .f64 0, .string ⟨#[]⟩, .slice none 0 0] 43 (0, 0))).alloc (.cells #[.int .i64 0] 3 (0, 0))).heap.size = w.heap.size + 2) := ⟨by omega⟩
  clear hs1 hs2
  generalize ((w.alloc (.cells #[.string ⟨#[]⟩, .int .i64 0, .bool false, .int .i64 0, .int .u64 0, .float .f64 0, .string ⟨#[]⟩, .slice none 0 0] 43 (0, 0))).alloc (.cells #[.int .i64 0] 3 (0, 0))) = W0 at *
  have HK : Aside0 (W0.heap[w.heap.size]? = some (.cells #[.string ⟨#[]⟩, .int .i64 0, .bool false, .int .i64 0, .int .u64 0, .float .f64 0, .string ⟨#[]⟩, .slice none 0 0] 43 (0, 0)) ∧ W0.heap[w.heap.size + 1]? = some (.cells #[.int .i64 0] 3 (0, 0)) ∧ Below w.heap.size w W0) := ⟨hZ, hO, hB⟩
  clear hZ hO hB
  refine (H20.out W0 HK.out.2.2).mono ?_
  rintro e w1 ⟨g0, rfl, h1, h2⟩
  have HK1 : Aside0 (w1.heap[w.heap.size]? = some (.cells #[.string ⟨#[]⟩, .int .i64 0, .bool false, .int .i64 0, .int .u64 0, .float .f64 0, .string ⟨#[]⟩, .slice none 0 0] 43 (0, 0)) ∧ w1.heap[w.heap.size + 1]? = some (.cells #[.int .i64 0] 3 (0, 0)) ∧ Below w.heap.size w w1 ∧ w.heap.size + 2 ≤ w1.heap.size) := ⟨blk_below HK.out.1 h2, blk_below HK.out.2.1 h2, below_step HK.out.2.2 h2, by have := h2.size; have := HS.out; omega⟩
  have HP := Aside0.mk h1
  clear h1 h2 HK HS
  go_wp2_with fail
  refine (H23.out g0 w1 HP.out).mono ?_
  rintro e w2 ⟨A, c, rfl, hl, hF, hB⟩
  have HK2 : Aside0 (w2.heap[w.heap.size]? = some (.cells #[.string ⟨#[]⟩, .int .i64 0, .bool false, .int .i64 0, .int .u64 0, .float .f64 0, .string ⟨#[]⟩, .slice none 0 0] 43 (0, 0)) ∧ w2.heap[w.heap.size + 1]? = some (.cells #[.int .i64 0] 3 (0, 0)) ∧ Below w.heap.size w w2 ∧ w.heap.size + 2 ≤ w1.heap.size) := ⟨blk_below HK1.out.1 hB, blk_below HK1.out.2.1 hB, below_step HK1.out.2.2.1 hB, HK1.out.2.2.2⟩
  have HF : Aside0 (xs.length ≤ c ∧ Kd.F k43 w2 (fun k => w.heap.size + 2 ≤ k) A xs.length xs) := ⟨hl, Kd.F_mono hF (fun k hk => by have := HK1.out.2.2.2; omega)⟩
  clear hl hF hB HP HK1
  have z0 : ∀ j, w2.cell? ⟨w.heap.size, j, none⟩ = (#[.string ⟨#[]⟩, .int .i64 0, .bool false, .int .i64 0, .int .u64 0, .float .f64 0, .string ⟨#[]⟩, .slice none 0 0] : Array Value)[j]? := fun j => (blk_cell HK2.out.1 j)
  have f0 : ∀ j, w2.frozen? ⟨w.heap.size, j, none⟩ = false := fun j => blk_frozen HK2.out.1 j
  have z1 : ∀ j, w2.cell? ⟨w.heap.size + 1, j, none⟩ = (#[.int .i64 0] : Array Value)[j]? := fun j => (blk_cell HK2.out.2.1 j)
  have f1 : ∀ j, w2.frozen? ⟨w.heap.size + 1, j, none⟩ = false := fun j => blk_frozen HK2.out.2.1 j
  go_wp2_with fail
  refine leaves_cons (f := 197) (args := #[.pointer (some ⟨w.heap.size, 0, none⟩), .pointer (some ⟨w.heap.size + 1, 0, none⟩)]) (by simp) (by simp [go_sem]) ?_
  refine (catch122_idle _ _ _).mono ?_
  rintro e u' w'' ⟨rfl, rfl, rfl⟩
  have hput := put8 HK2.out.1 (.string ⟨#[]⟩) (.int .i64 8) (.bool false) (.int .i64 0) (.int .u64 0) (.float .f64 0) (.string ⟨#[]⟩) (.slice A xs.length c)
  have hone := (far8 (show w.heap.size + 1 ≠ w.heap.size by omega) (.string ⟨#[]⟩) (.int .i64 8) (.bool false) (.int .i64 0) (.int .u64 0) (.float .f64 0) (.string ⟨#[]⟩) (.slice A xs.length c)).trans HK2.out.2.1
  have hbel := below_put8 HK2.out.2.2.1 (Nat.le_refl _) (.string ⟨#[]⟩) (.int .i64 8) (.bool false) (.int .i64 0) (.int .u64 0) (.float .f64 0) (.string ⟨#[]⟩) (.slice A xs.length c)
  have hF8 : Kd.F k43 ((((((((w2.setCell ⟨w.heap.size, 0, none⟩ (.string ⟨#[]⟩)).setCell ⟨w.heap.size, 1, none⟩ (.int .i64 8)).setCell ⟨w.heap.size, 2, none⟩ (.bool false)).setCell ⟨w.heap.size, 3, none⟩ (.int .i64 0)).setCell ⟨w.heap.size, 4, none⟩ (.int .u64 0)).setCell ⟨w.heap.size, 5, none⟩ (.float .f64 0)).setCell ⟨w.heap.size, 6, none⟩ (.string ⟨#[]⟩)).setCell ⟨w.heap.size, 7, none⟩ (.slice A xs.length c)) (fun k => w.heap.size + 2 ≤ k) A xs.length xs := by
    refine F_setCell (F_setCell (F_setCell (F_setCell (F_setCell (F_setCell (F_setCell (F_setCell HF.out.2 _ _ ?_) _ _ ?_) _ _ ?_) _ _ ?_) _ _ ?_) _ _ ?_) _ _ ?_) _ _ ?_ <;> exact fun k hk => by show k ≠ w.heap.size; omega
  clear z0 z1 f0 f1
  generalize ((((((((w2.setCell ⟨w.heap.size, 0, none⟩ (.string ⟨#[]⟩)).setCell ⟨w.heap.size, 1, none⟩ (.int .i64 8)).setCell ⟨w.heap.size, 2, none⟩ (.bool false)).setCell ⟨w.heap.size, 3, none⟩ (.int .i64 0)).setCell ⟨w.heap.size, 4, none⟩ (.int .u64 0)).setCell ⟨w.heap.size, 5, none⟩ (.float .f64 0)).setCell ⟨w.heap.size, 6, none⟩ (.string ⟨#[]⟩)).setCell ⟨w.heap.size, 7, none⟩ (.slice A xs.length c)) = w3 at *
  refine ⟨_, results_cs rfl _ _ w.heap.size (w.heap.size + 1) 43 _ (0, 0) (.int .i64 0) rfl rfl ((Below.heap_setCell _ _ _ _ (by show w.heap.size ≠ w.heap.size + 1; omega)).trans hput) (by kernel_rfl) ((blk_cell (blk_put hone 0 (.int .i64 0) rfl) 0).trans rfl), A, c, rfl, HF.out.1, F_setCell hF8 _ _ (fun k hk => by show k ≠ w.heap.size + 1; omega), ?_⟩
  exact below_low hbel (by apply Below.setCell (Below.refl w.heap.size w3); show w.heap.size ≤ w.heap.size + 1; omega) (Nat.le_refl _)
end Go.Proofs.YtabfglmpnkgecaaGreatDoor.X

/- The door Loadavg, and lives. -/
namespace Go.Proofs.YtabfglmpnkgecaaGreatDoor.X
open Go.RowKit Go.Proofs.YtabfglmpnkgecaaGreatDoorW.PrintWords Go.Proofs.YtabfglmpnkgecaaGreatDoorW.PrintLast Go.Proofs.YtabfglmpnkgecaaGreatDoorW.PrintMore Go.Proofs.YtabfglmpnkgecaaGreatDoor.Q
attribute [local go_sem] run_store_float

theorem textFS_calls (T : ByteArray) (w : World) : Calls Tryz.prog 34 #[.string T] w fun e w' => e = .returned (.agg #[.string T]) ∧ Below w.heap.size w w' := by
  have hu := Tryz.underlying62
  go_enter Tryz.func34, Tryz.ntmps34
  go_wp2
  exact bodyPost_ret (results_cell_row rfl _ _ w.heap.size 62 #[.string T] (0, 0) _ rfl (blk_new w (.cells #[.string T] 62)) hu rfl (by kernel_rfl)) rfl ⟨rfl, below_alloc (Below.refl _ _) _⟩
set_option maxHeartbeats 4000000 in
set_option maxRecDepth 100000 in
theorem loadavg_calls (x : Addr) (n c : Nat) (w : World) (h : LiveAt x n c w) :
    Calls Tryz.prog 23 #[.string liveT] w fun e w' => ∃ A c, e = .returned (.tuple #[.agg #[.string ⟨#[]⟩, .int .i64 8, .bool false, .int .i64 0, .int .u64 0, .float .f64 0, .string ⟨#[]⟩, .slice A loadKids.length c], .int .i64 0]) ∧ loadKids.length ≤ c ∧ Kd.F k43 w' (fun k => w.heap.size ≤ k) A loadKids.length loadKids ∧ Below w.heap.size w w' := by
  have hu43 := Tryz.underlying43
  have hmf : ∀ (fn : Fn) (first cap : Array Value) (w : World), (Instr.makeFunc fn first cap).run Tryz.prog w = .ok (.func fn first cap) w := fun _ _ _ _ => rfl
  have H113 : Aside0 (∀ (w1 : World), Below w.heap.size w w1 → ∀ W : World, Below w1.heap.size w1 W → Calls Tryz.prog 41 #[.agg #[.string liveT]] W (fun e w' => ∃ b, e = .returned (.tuple #[.pointer (some ⟨b, 0, none⟩), .nilIface]) ∧ w'.heap[b]? = some (.cells loadArgs 93 (0, 0)) ∧ Below W.heap.size W w')) :=
    ⟨fun w1 h2 W hB => loadAvg_calls x n c W (h.below (below_step h2 hB) (Nat.le_refl _))⟩
  have H114 : Aside0 (∀ (b : Nat) (W : World), W.heap[b]? = some (.cells loadArgs 93 (0, 0)) → Calls Tryz.prog 42 #[.pointer (some ⟨b, 0, none⟩)] W (RecPost W ⟨#[]⟩ loadKids)) :=
    ⟨fun b W hb => doorL_calls loadArgs loadKids (by decide) (fun w1 => load44 ⟨#[]⟩ w1) b W hb⟩
  clear h
  generalize hT : liveT = T at *
  generalize loadKids = xs at *
  go_enter Tryz.func23, Tryz.ntmps23
  go_wp2_with fail
  have hZ := blk_new w (.cells #[.string ⟨#[]⟩, .int .i64 0, .bool false, .int .i64 0, .int .u64 0, .float .f64 0, .string ⟨#[]⟩, .slice none 0 0] 43 (0, 0))
  have hB := below_alloc (Below.refl w.heap.size w) (.cells #[.string ⟨#[]⟩, .int .i64 0, .bool false, .int .i64 0, .int .u64 0, .float .f64 0, .string ⟨#[]⟩, .slice none 0 0] 43 (0, 0))
  have hs1 := World.size_alloc w (.cells #[.string ⟨#[]⟩, .int .i64 0, .bool false, .int .i64 0, .int .u64 0, .float .f64 0, .string ⟨#[]⟩, .slice none 0 0] 43 (0, 0))
  generalize (w.alloc (.cells #[.string ⟨#[]⟩, .int .i64 0, .bool false, .int .i64 0, .int .u64 0, .float .f64 0, .string ⟨#[]⟩, .slice none 0 0] 43 (0, 0))) = w0 at *
  refine (textFS_calls T w0).mono ?_
  rintro e w1 ⟨rfl, hB1⟩
  have HZ1 : Aside0 (w1.heap[w.heap.size]? = some (.cells #[.string ⟨#[]⟩, .int .i64 0, .bool false, .int .i64 0, .int .u64 0, .float .f64 0, .string ⟨#[]⟩, .slice none 0 0] 43 (0, 0)) ∧ Below w.heap.size w w1 ∧ w.heap.size + 1 ≤ w1.heap.size) := ⟨blk_below hZ hB1, below_step hB hB1, by have := hB1.size; omega⟩
  clear hZ hB hs1 hB1
  go_wp2_with fail
  refine (tree111_calls xs (.agg #[.string T]) w1 (H113.out w1 HZ1.out.2.1) H114.out).mono ?_
  rintro e w2 ⟨A, c, rfl, hlc, hF, hB2⟩
  have HZ : Aside0 (w2.heap[w.heap.size]? = some (.cells #[.string ⟨#[]⟩, .int .i64 0, .bool false, .int .i64 0, .int .u64 0, .float .f64 0, .string ⟨#[]⟩, .slice none 0 0] 43 (0, 0)) ∧ Below w.heap.size w w2) := ⟨blk_below HZ1.out.1 hB2, below_step HZ1.out.2.1 hB2⟩
  have HF : Aside0 (xs.length ≤ c ∧ Kd.F k43 w2 (fun k => w.heap.size + 1 ≤ k) A xs.length xs) := ⟨hlc, Kd.F_mono hF (fun k hk => by have := HZ1.out.2.2; omega)⟩
  clear hB2 hF hlc HZ1 H113 H114
  have z0 : ∀ j, w2.cell? ⟨w.heap.size, j, none⟩ = (#[.string ⟨#[]⟩, .int .i64 0, .bool false, .int .i64 0, .int .u64 0, .float .f64 0, .string ⟨#[]⟩, .slice none 0 0] : Array Value)[j]? := fun j => (blk_cell HZ.out.1 j)
  have f0 : ∀ j, w2.frozen? ⟨w.heap.size, j, none⟩ = false := fun j => blk_frozen HZ.out.1 j
  go_wp2_with fail
  refine bodyPost_ret (results_ct rfl _ _ w.heap.size 43 _ (0, 0) _ rfl (put8 HZ.out.1 _ _ _ _ _ _ _ _) hu43 rfl (by kernel_rfl)) rfl ?_
  refine ⟨A, c, rfl, HF.out.1, Kd.F_mono (ok := fun k => w.heap.size + 1 ≤ k) ?_ (fun k hk => ?_), below_put8 HZ.out.2 (Nat.le_refl _) _ _ _ _ _ _ _ _⟩
  · refine F_setCell (F_setCell (F_setCell (F_setCell (F_setCell (F_setCell (F_setCell (F_setCell HF.out.2 _ _ ?_) _ _ ?_) _ _ ?_) _ _ ?_) _ _ ?_) _ _ ?_) _ _ ?_) _ _ ?_ <;> exact fun k hk => by show k ≠ w.heap.size; omega
  · omega
set_option maxHeartbeats 8000000 in
set_option maxRecDepth 100000 in
theorem lives_calls (x : Addr) (n c : Nat) (w : World) (h : LiveAt x n c w) : Calls Tryz.prog 10 #[] w fun e w' => e = .returned (.bool true) ∧ Below w.heap.size w w' := by
  have hu43 := Tryz.underlying43
  have h41 := Tryz.underlying41
  have H := Aside0.mk (loadavg_calls x n c w h)
  have hT : liveT = ⟨#[48, 46, 53, 32, 48, 46, 50, 53, 32, 48, 46, 55, 53, 32, 49, 47, 52, 57, 55, 32, 49, 49, 57, 52, 55, 10]⟩ := rfl
  rw [hT] at H
  clear h hT
  go_enter Tryz.func10, Tryz.ntmps10
  go_wp2_with fail
  refine H.out.mono ?_
  rintro e w1 ⟨A, c1, rfl, hlc, hF, hB⟩
  have HF : Aside0 (Kd.F k43 w1 (fun k => w.heap.size ≤ k) A 3 loadKids ∧ Below w.heap.size w w1) := ⟨hF, hB⟩
  have hlc3 : 3 ≤ c1 := hlc
  have hl3 : loadKids.length = 3 := rfl
  rw [hl3]
  clear hF hB hlc hl3
  go_upto_region 2 with (fail)
  have hb1 := blk_new w1 (.cells #[.string ⟨#[]⟩, .int .i64 8, .bool false, .int .i64 0, .int .u64 0, .float .f64 0, .string ⟨#[]⟩, .slice A 3 c1] 43 (0, 0))
  have hB2 := below_alloc HF.out.2 (.cells #[.string ⟨#[]⟩, .int .i64 8, .bool false, .int .i64 0, .int .u64 0, .float .f64 0, .string ⟨#[]⟩, .slice A 3 c1] 43 (0, 0))
  have hC := Kd.F_now (F_alloc HF.out.1 (.cells #[.string ⟨#[]⟩, .int .i64 8, .bool false, .int .i64 0, .int .u64 0, .float .f64 0, .string ⟨#[]⟩, .slice A 3 c1] 43 (0, 0)))
  generalize (w1.alloc (.cells #[.string ⟨#[]⟩, .int .i64 8, .bool false, .int .i64 0, .int .u64 0, .float .f64 0, .string ⟨#[]⟩, .slice A 3 c1] 43 (0, 0))) = w2 at *
  generalize w1.heap.size = g1 at *
  have c7 : w2.cell? ⟨g1, 7, none⟩ = some (.slice A 3 c1) := (blk_cell hb1 7).trans rfl
  obtain ⟨ad, -, -, rfl, -, -, -, -, -, k0, -⟩ := at_T43 hC 0 (by decide) (by decide)
  obtain ⟨ad1, -, -, e1, -, -, -, -, -, k1, -⟩ := at_T43 hC 1 (by decide) (by decide)
  obtain ⟨ad2, -, -, e2, -, -, -, -, -, k2, -⟩ := at_T43 hC 2 (by decide) (by decide)
  cases e1
  cases e2
  have HB2 := Aside0.mk hB2
  clear hC hb1 hB2
  have n0 : w2.cell? ⟨ad.block, ad.off + 5, none⟩ = some (.float .f64 4602678819172646912) := k0
  have n1 : w2.cell? ⟨ad.block, ad.off + 8 + 5, none⟩ = some (.float .f64 4598175219545276416) := k1
  have n2 : w2.cell? ⟨ad.block, ad.off + 16 + 5, none⟩ = some (.float .f64 4604930618986332160) := k2
  have n1' : w2.cell? ⟨ad.block, ad.off + 13, none⟩ = some (.float .f64 4598175219545276416) := n1
  have n2' : w2.cell? ⟨ad.block, ad.off + 21, none⟩ = some (.float .f64 4604930618986332160) := n2
  clear k0 k1 k2
  have hq : (FloatKind.f64.format.order 4604930618986332160 4604930618986332160 == some Ordering.eq) = true := by kernel_rfl
  go_wp2_with fail
  go_ret
  exact ⟨rfl, HB2.out⟩
end Go.Proofs.YtabfglmpnkgecaaGreatDoor.X
