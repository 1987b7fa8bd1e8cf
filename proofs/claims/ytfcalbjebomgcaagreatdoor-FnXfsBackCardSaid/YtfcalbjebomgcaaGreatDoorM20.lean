/- The door Xfs by contract: its closure, tree, and the door itself. -/
import Derived.Test.YtfcalbjebomgcaaGreatDoorM19
import Derived.Defers
import Derived.Recover
set_option linter.unusedVariables false
set_option linter.unusedSimpArgs false
namespace Go.Proofs.YtfcalbjebomgcaaGreatDoor.X
open Go.RowKit Go.Proofs.YtfcalbjebomgcaaGreatDoorW.PrintWords Go.Proofs.YtfcalbjebomgcaaGreatDoorW.PrintLast Go.Proofs.YtfcalbjebomgcaaGreatDoorW.PrintMore Go.Proofs.YtfcalbjebomgcaaGreatDoor.Q
attribute [local go_sem] run_store_float

theorem catch77_idle (p q : Value) (w : World) :
    CallsD Tryz.prog 77 #[p, q] .returning w fun e u' w' => e = .returned (.tuple #[]) ∧ u' = .returning ∧ w' = w := by
  refine callsD_of_wpS Tryz.func77 rfl fun c₀ cs hu => ?_
  apply wpS_seq
  apply wpS_region
  simp [wpOpsS, go_sem, recoverD, hu, Tryz.ntmps77, Exit.thenS]
  refine wpS_cond (t := false) (by simp [Act.eval, Array.replicate]) ?_
  simp only [Bool.false_eq_true, if_false]
  refine wpS_of_wp (wp_skip ?_)
  cases c₀
  simp_all [bodyPostS, results, Tryz.results77]
def ParsedPost (l : List S31) (w : World) (e : Ending) (w' : World) : Prop :=
  e = .returned (.tuple #[.pointer (some ⟨w.heap.size, 0, none⟩), .nilIface]) ∧ w'.heap[w.heap.size]? = some (.cells (statArgs ⟨#[]⟩ (Mof l)) 123 (0, 0)) ∧ Below w.heap.size w w'
theorem xfs1_calls (l : List S31) (hf : ∀ r ∈ l, fineRow r = true) (hw : Wf31 l) (hl : l.length ≤ 1000) (b : Nat) (w : World) (hb : w.heap[b]? = some (.cells #[.string ⟨(textL l).toArray⟩] 9 (0, 0))) (htab : Lib.TabIs Tryz.prog w "strings.asciiSpace" .u8 Lib.asciiSpaceTab) :
    Calls Tryz.prog 20 #[.pointer (some ⟨b, 0, none⟩)] w (ParsedPost l w) := by
  have hc : w.cell? ⟨b, 0, none⟩ = some (.string ⟨(textL l).toArray⟩) := (blk_cell hb 0).trans rfl
  have H := Aside0.mk (parseStats_calls l hf hw hl w htab)
  clear hf hw hl htab hb
  generalize (⟨(textL l).toArray⟩ : ByteArray) = T at *
  go_enter Tryz.func20, Tryz.ntmps20
  go_wp2_with fail
  refine H.out.mono ?_
  rintro e w' ⟨rfl, h1, h2⟩
  have HH := Aside0.mk (And.intro h1 h2)
  clear h1 h2
  go_wp2_with fail
  go_ret2
  exact ⟨rfl, HH.out⟩

theorem F_setCell {α : Type} {d : Kd α} {w : World} {ok : Nat → Prop} {A : Option Addr} {n : Nat} {xs : List α} (h : Kd.F d w ok A n xs) (p : Addr) (v : Value) (hp : ∀ k, ok k → k ≠ p.block) : Kd.F d (w.setCell p v) ok A n xs := fun W' hW =>
  h W' (fun k hk hlt => (hW k hk (by rw [World.size_setCell]; exact hlt)).trans (Below.heap_setCell _ _ _ _ (hp k hk)))
theorem F_alloc {α : Type} {d : Kd α} {w : World} {ok : Nat → Prop} {A : Option Addr} {n : Nat} {xs : List α} (h : Kd.F d w ok A n xs) (o : Obj) : Kd.F d (w.alloc o) ok A n xs := fun W' hW =>
  h W' (fun k hk hlt => (hW k hk (by rw [World.size_alloc]; omega)).trans (Below.heap_alloc _ _ _ hlt))
theorem results_cs {fn : Func} {p p' : Tmp} (h : fn.results = #[.cell p 43, .cell p' 3]) (tmps : Array Value) (w : World) (g g' : Nat) (t : TypeId) (cs : Array Value) (fr : Nat × Nat) (v : Value)
    (hp : tmps.getD p undef = .pointer (some ⟨g, 0, none⟩)) (hp' : tmps.getD p' undef = .pointer (some ⟨g', 0, none⟩)) (hg : w.heap[g]? = some (.cells cs t fr))
    (hi : (Tryz.prog.info? 43).map (·.size) = some cs.size) (hc : w.cell? ⟨g', 0, none⟩ = some v) :
    (results fn tmps).run Tryz.prog w = .ok (.tuple #[.agg cs, v]) w := by
  have q : tmps[p]?.getD undef = .pointer (some ⟨g, 0, none⟩) := by simpa using hp
  have q' : tmps[p']?.getD undef = .pointer (some ⟨g', 0, none⟩) := by simpa using hp'
  have hu3 := Tryz.underlying3
  have hl : (loadVar 3 ⟨g', 0, none⟩).run Tryz.prog w = .ok v w := by
    go_simp
  simp [results, h, q, q', asAddr, run_loadVar_row w g t 43 cs fr _ hg Tryz.underlying43 rfl hi, hl]
set_option maxHeartbeats 4000000 in
set_option maxRecDepth 100000 in
theorem tree22_calls (l : List S31) (xs : List S43) (bt : Nat) (w : World)
    (h20 : ∀ W : World, Below w.heap.size w W → Calls Tryz.prog 20 #[.pointer (some ⟨bt, 0, none⟩)] W (ParsedPost l W)) (h23 : ∀ (b : Nat) (W : World), W.heap[b]? = some (.cells (statArgs ⟨#[]⟩ (Mof l)) 123 (0, 0)) → Calls Tryz.prog 23 #[.pointer (some ⟨b, 0, none⟩)] W (RecPost W ⟨#[]⟩ xs)) :
    Calls Tryz.prog 22 #[.func (.func 20) #[] #[.pointer (some ⟨bt, 0, none⟩)], .func (.func 23) #[] #[]] w fun e w' => ∃ A c, e = .returned (.tuple #[.agg #[.string ⟨#[]⟩, .int .i64 8, .bool false, .int .i64 0, .int .u64 0, .float .f64 0, .string ⟨#[]⟩, .slice A xs.length c], .int .i64 0]) ∧ xs.length ≤ c ∧ Kd.F k43 w' (fun k => w.heap.size + 2 ≤ k) A xs.length xs ∧ Below w.heap.size w w' := by
  have hu43 := Tryz.underlying43
  have hmf : ∀ (fn : Fn) (first cap : Array Value) (w : World), (Instr.makeFunc fn first cap).run Tryz.prog w = .ok (.func fn first cap) w := fun _ _ _ _ => rfl
  have H20 := Aside0.mk h20
  have H23 := Aside0.mk h23
  clear h20 h23
  go_enter_defers Tryz.func22, Tryz.ntmps22
  go_wp2_with fail
  have hZ := blk_alloc (blk_new w (.cells #[.string ⟨#[]⟩, .int .i64 0, .bool false, .int .i64 0, .int .u64 0, .float .f64 0, .string ⟨#[]⟩, .slice none 0 0] 43 (0, 0))) (.cells #[.int .i64 0] 3 (0, 0))
  have hO := blk_new (w.alloc (.cells #[.string ⟨#[]⟩, .int .i64 0, .bool false, .int .i64 0, .int .u64 0, .float .f64 0, .string ⟨#[]⟩, .slice none 0 0] 43 (0, 0))) (.cells #[.int .i64 0] 3 (0, 0))
  have hB := below_alloc (below_alloc (Below.refl w.heap.size w) (.cells #[.string ⟨#[]⟩, .int .i64 0, .bool false, .int .i64 0, .int .u64 0, .float .f64 0, .string ⟨#[]⟩, .slice none 0 0] 43 (0, 0))) (.cells #[.int .i64 0] 3 (0, 0))
  have hs1 := World.size_alloc w (.cells #[.string ⟨#[]⟩, .int .i64 0, .bool false, .int .i64 0, .int .u64 0, .float .f64 0, .string ⟨#[]⟩, .slice none 0 0] 43 (0, 0))
  have hs2 := World.size_alloc (w.alloc (.cells #[.string ⟨#[]⟩, .int .i64 0, .bool false, .int .i64 0, .int .u64 0, .float .f64 0, .string ⟨#[]⟩, .slice none 0 0] 43 (0, 0))) (.cells #[.int .i64 0] 3 (0, 0))
  rw [hs1] at hO
  have HS : Aside0 (((w.alloc (.cells #[.string ⟨#[]⟩, .int .i64 0, .bool false, .int .i64 0, .int .u64 0, .float .f64 0, .string ⟨#[]⟩, .slice none 0 0] 43 (0, 0))).alloc (.cells #[.int .i64 0] 3 (0, 0))).heap.size = w.heap.size + 2) := ⟨by omega⟩
  clear hs1 hs2
  generalize ((w.alloc (.cells #[.string ⟨#[]⟩, .int .i64 0, .bool false, .int .i64 0, .int .u64 0, .float .f64 0, .string ⟨#[]⟩, .slice none 0 0] 43 (0, 0))).alloc (.cells #[.int .i64 0] 3 (0, 0))) = W0 at *
  have HK : Aside0 (W0.heap[w.heap.size]? = some (.cells #[.string ⟨#[]⟩, .int .i64 0, .bool false, .int .i64 0, .int .u64 0, .float .f64 0, .string ⟨#[]⟩, .slice none 0 0] 43 (0, 0)) ∧ W0.heap[w.heap.size + 1]? = some (.cells #[.int .i64 0] 3 (0, 0)) ∧ Below w.heap.size w W0) := ⟨hZ, hO, hB⟩
  clear hZ hO hB
  refine (H20.out W0 HK.out.2.2).mono ?_
  rintro e w1 ⟨rfl, h1, h2⟩
  have HK1 : Aside0 (w1.heap[w.heap.size]? = some (.cells #[.string ⟨#[]⟩, .int .i64 0, .bool false, .int .i64 0, .int .u64 0, .float .f64 0, .string ⟨#[]⟩, .slice none 0 0] 43 (0, 0)) ∧ w1.heap[w.heap.size + 1]? = some (.cells #[.int .i64 0] 3 (0, 0)) ∧ Below w.heap.size w w1 ∧ w.heap.size + 2 ≤ w1.heap.size) := ⟨blk_below HK.out.1 h2, blk_below HK.out.2.1 h2, below_step HK.out.2.2 h2, by have := h2.size; have := HS.out; omega⟩
  have HP := Aside0.mk h1
  clear h1 h2 HK HS
  generalize W0.heap.size = g0 at *
  go_wp2_with fail
  refine (H23.out g0 w1 HP.out).mono ?_
  rintro e w2 ⟨A, c, rfl, hl, hF, hB⟩
  have HK2 : Aside0 (w2.heap[w.heap.size]? = some (.cells #[.string ⟨#[]⟩, .int .i64 0, .bool false, .int .i64 0, .int .u64 0, .float .f64 0, .string ⟨#[]⟩, .slice none 0 0] 43 (0, 0)) ∧ w2.heap[w.heap.size + 1]? = some (.cells #[.int .i64 0] 3 (0, 0)) ∧ Below w.heap.size w w2 ∧ w.heap.size + 2 ≤ w1.heap.size) := ⟨blk_below HK1.out.1 hB, blk_below HK1.out.2.1 hB, below_step HK1.out.2.2.1 hB, HK1.out.2.2.2⟩
  have HF : Aside0 (xs.length ≤ c ∧ Kd.F k43 w2 (fun k => w.heap.size + 2 ≤ k) A xs.length xs) := ⟨hl, Kd.F_mono hF (fun k hk => by have := HK1.out.2.2.2; omega)⟩
  clear hl hF hB HP HK1
  have z0 : ∀ j, w2.cell? ⟨w.heap.size, j, none⟩ = (#[.string ⟨#[]⟩, .int .i64 0, .bool false, .int .i64 0, .int .u64 0, .float .f64 0, .string ⟨#[]⟩, .slice none 0 0] : Array Value)[j]? := fun j => (blk_cell HK2.out.1 j)
  have f0 : ∀ j, w2.frozen? ⟨w.heap.size, j, none⟩ = false := fun j => blk_frozen HK2.out.1 j
  have z1 : ∀ j, w2.cell? ⟨w.heap.size + 1, j, none⟩ = (#[.int .i64 0] : Array Value)[j]? := fun j => (blk_cell HK2.out.2.1 j)
  have f1 : ∀ j, w2.frozen? ⟨w.heap.size + 1, j, none⟩ = false := fun j => blk_frozen HK2.out.2.1 j
  go_wp2_with fail
  refine leaves_cons (f := 77) (args := #[.pointer (some ⟨w.heap.size, 0, none⟩), .pointer (some ⟨w.heap.size + 1, 0, none⟩)]) (by simp) (by simp [go_sem]) ?_
  refine (catch77_idle _ _ _).mono ?_
  rintro e u' w'' ⟨rfl, rfl, rfl⟩
  have hput := put8 HK2.out.1 (.string ⟨#[]⟩) (.int .i64 8) (.bool false) (.int .i64 0) (.int .u64 0) (.float .f64 0) (.string ⟨#[]⟩) (.slice A xs.length c)
  have hone := (far8 (show w.heap.size + 1 ≠ w.heap.size by omega) (.string ⟨#[]⟩) (.int .i64 8) (.bool false) (.int .i64 0) (.int .u64 0) (.float .f64 0) (.string ⟨#[]⟩) (.slice A xs.length c)).trans HK2.out.2.1
  have hbel := below_put8 HK2.out.2.2.1 (Nat.le_refl _) (.string ⟨#[]⟩) (.int .i64 8) (.bool false) (.int .i64 0) (.int .u64 0) (.float .f64 0) (.string ⟨#[]⟩) (.slice A xs.length c)
  have hF8 : Kd.F k43 ((((((((w2.setCell ⟨w.heap.size, 0, none⟩ (.string ⟨#[]⟩)).setCell ⟨w.heap.size, 1, none⟩ (.int .i64 8)).setCell ⟨w.heap.size, 2, none⟩ (.bool false)).setCell ⟨w.heap.size, 3, none⟩ (.int .i64 0)).setCell ⟨w.heap.size, 4, none⟩ (.int .u64 0)).setCell ⟨w.heap.size, 5, none⟩ (.float .f64 0)).setCell ⟨w.heap.size, 6, none⟩ (.string ⟨#[]⟩)).setCell ⟨w.heap.size, 7, none⟩ (.slice A xs.length c)) (fun k => w.heap.size + 2 ≤ k) A xs.length xs := by
    refine F_setCell (F_setCell (F_setCell (F_setCell (F_setCell (F_setCell (F_setCell (F_setCell HF.out.2 _ _ ?_) _ _ ?_) _ _ ?_) _ _ ?_) _ _ ?_) _ _ ?_) _ _ ?_) _ _ ?_ <;> exact fun k hk => by show k ≠ w.heap.size; omega
  clear z0 z1 f0 f1
  generalize ((((((((w2.setCell ⟨w.heap.size, 0, none⟩ (.string ⟨#[]⟩)).setCell ⟨w.heap.size, 1, none⟩ (.int .i64 8)).setCell ⟨w.heap.size, 2, none⟩ (.bool false)).setCell ⟨w.heap.size, 3, none⟩ (.int .i64 0)).setCell ⟨w.heap.size, 4, none⟩ (.int .u64 0)).setCell ⟨w.heap.size, 5, none⟩ (.float .f64 0)).setCell ⟨w.heap.size, 6, none⟩ (.string ⟨#[]⟩)).setCell ⟨w.heap.size, 7, none⟩ (.slice A xs.length c)) = w3 at *
  refine ⟨_, results_cs rfl _ _ w.heap.size (w.heap.size + 1) 43 _ (0, 0) (.int .i64 0) rfl rfl ((Below.heap_setCell _ _ _ _ (by show w.heap.size ≠ w.heap.size + 1; omega)).trans hput) (by kernel_rfl) ((blk_cell (blk_put hone 0 (.int .i64 0) rfl) 0).trans rfl), A, c, rfl, HF.out.1, F_setCell hF8 _ _ (fun k hk => by show k ≠ w.heap.size + 1; omega), ?_⟩
  exact below_low hbel (by apply Below.setCell (Below.refl w.heap.size w3); show w.heap.size ≤ w.heap.size + 1; omega) (Nat.le_refl _)
end Go.Proofs.YtfcalbjebomgcaaGreatDoor.X

/- The door Xfs at a text that was written from rows. -/
namespace Go.Proofs.YtfcalbjebomgcaaGreatDoor.X
open Go.RowKit Go.Proofs.YtfcalbjebomgcaaGreatDoorW.PrintWords Go.Proofs.YtfcalbjebomgcaaGreatDoorW.PrintLast Go.Proofs.YtfcalbjebomgcaaGreatDoorW.PrintMore Go.Proofs.YtfcalbjebomgcaaGreatDoor.Q
attribute [local go_sem] run_store_float

theorem Mof_stat (l : List S31) (hf : ∀ r ∈ l, fineRow r = true) (hw : Wf31 l) : StatOk (Mof l) := by
  refine ⟨Mof_ok l hf, ?_⟩
  have h : ∀ (l : List S31) (M : Nat → List Int), (∀ i, i < 34 → i ∉ [13, 32, 33] → ∀ n ∈ M i, 0 ≤ n ∧ n < 4294967296) → (∀ r ∈ l, fineRow r = true) → Wf31 l → ∀ i, i < 34 → i ∉ [13, 32, 33] → ∀ n ∈ (l.foldl (fun M r => upd M (gi r.f0) r.f1) M) i, 0 ≤ n ∧ n < 4294967296 := by
    intro l
    induction l with
    | nil => intro M hM _ _; exact hM
    | cons r l ih =>
      intro M hM hf hw
      refine ih _ (fun i hi hni n hn => ?_) (fun x hx => hf x (List.mem_cons_of_mem _ hx)) (fun x hx => hw x (List.mem_cons_of_mem _ hx))
      have hn : n ∈ (if i = gi r.f0 then r.f1 else M i) := hn
      by_cases e : i = gi r.f0
      · rw [if_pos e] at hn
        obtain ⟨k, hk, hgk, _, _, _, _, _, hroute⟩ := row_group r (hf r List.mem_cons_self)
        have hki : k = i := hgk.symm.trans e.symm
        have h0 := (hw r List.mem_cons_self n hn).1
        split at hroute
        · exact absurd (by rw [← hki, hroute]; simp) hni
        · split at hroute
          · exact absurd (by rw [← hki, hroute]; simp) hni
          · exact ⟨h0, hroute.2 n hn⟩
      · rw [if_neg e] at hn
        exact hM i hi hni n hn
  exact h l M0 (fun i _ _ n hn => by rw [List.eq_of_mem_replicate hn]; decide) hf hw
/-- The nodes that the door makes of rows. -/
def xfsNodes (l : List S31) : List S43 := textM ⟨#[78, 97, 109, 101]⟩ ⟨#[]⟩ :: (statLns (Mof l)).map (fun x => recM x.name x.ys)
set_option maxHeartbeats 4000000 in
set_option maxRecDepth 100000 in
theorem xfs_calls (l : List S31) (hf : ∀ r ∈ l, fineRow r = true) (hw : Wf31 l) (hl : l.length ≤ 1000) (w : World) (htab : Lib.TabIs Tryz.prog w "strings.asciiSpace" .u8 Lib.asciiSpaceTab) (hgl : ∀ g, Tryz.prog.globalNamed "strings.asciiSpace" = some g → g < w.heap.size) :
    Calls Tryz.prog 8 #[.string ⟨(textL l).toArray⟩] w fun e w' => ∃ A c, e = .returned (.tuple #[.agg #[.string ⟨#[]⟩, .int .i64 8, .bool false, .int .i64 0, .int .u64 0, .float .f64 0, .string ⟨#[]⟩, .slice A (xfsNodes l).length c], .int .i64 0]) ∧ (xfsNodes l).length ≤ c ∧ Kd.F k43 w' (fun k => w.heap.size ≤ k) A (xfsNodes l).length (xfsNodes l) ∧ Below w.heap.size w w' := by
  have hu43 := Tryz.underlying43
  have hmf : ∀ (fn : Fn) (first cap : Array Value) (w : World), (Instr.makeFunc fn first cap).run Tryz.prog w = .ok (.func fn first cap) w := fun _ _ _ _ => rfl
  have hst := Mof_stat l hf hw
  have H20 : Aside0 (∀ (b : Nat) (w1 : World), w1.heap[b]? = some (.cells #[.string ⟨(textL l).toArray⟩] 9 (0, 0)) → Below w.heap.size w w1 → ∀ W : World, Below w1.heap.size w1 W → Calls Tryz.prog 20 #[.pointer (some ⟨b, 0, none⟩)] W (ParsedPost l W)) :=
    ⟨fun b w1 h1 h2 W hB => xfs1_calls l hf hw hl b W (blk_below h1 hB) (tab_below htab (below_step h2 hB) hgl)⟩
  have H23 : Aside0 (∀ (b : Nat) (W : World), W.heap[b]? = some (.cells (statArgs ⟨#[]⟩ (Mof l)) 123 (0, 0)) → Calls Tryz.prog 23 #[.pointer (some ⟨b, 0, none⟩)] W (RecPost W ⟨#[]⟩ (xfsNodes l))) :=
    ⟨fun b W hb => door2_calls _ _ (stat_size _ _ hst) (fun w1 => xfsStats_calls ⟨#[]⟩ ⟨#[]⟩ (Mof l) hst w1) b W hb⟩
  clear hf hw hl htab hgl hst
  generalize (⟨(textL l).toArray⟩ : ByteArray) = T at *
  generalize hxs : xfsNodes l = xs at *
  go_enter Tryz.func8, Tryz.ntmps8
  go_wp2_with fail
  have hX := blk_alloc (blk_new w (.cells #[.string T] 9 (0, 0))) (.cells #[.string ⟨#[]⟩, .int .i64 0, .bool false, .int .i64 0, .int .u64 0, .float .f64 0, .string ⟨#[]⟩, .slice none 0 0] 43 (0, 0))
  have hZ := blk_new (w.alloc (.cells #[.string T] 9 (0, 0))) (.cells #[.string ⟨#[]⟩, .int .i64 0, .bool false, .int .i64 0, .int .u64 0, .float .f64 0, .string ⟨#[]⟩, .slice none 0 0] 43 (0, 0))
  have hB := below_alloc (below_alloc (Below.refl w.heap.size w) (.cells #[.string T] 9 (0, 0))) (.cells #[.string ⟨#[]⟩, .int .i64 0, .bool false, .int .i64 0, .int .u64 0, .float .f64 0, .string ⟨#[]⟩, .slice none 0 0] 43 (0, 0))
  have hs1 := World.size_alloc w (.cells #[.string T] 9 (0, 0))
  have hs2 := World.size_alloc (w.alloc (.cells #[.string T] 9 (0, 0))) (.cells #[.string ⟨#[]⟩, .int .i64 0, .bool false, .int .i64 0, .int .u64 0, .float .f64 0, .string ⟨#[]⟩, .slice none 0 0] 43 (0, 0))
  rw [hs1] at hZ
  have HS : Aside0 (((w.alloc (.cells #[.string T] 9 (0, 0))).alloc (.cells #[.string ⟨#[]⟩, .int .i64 0, .bool false, .int .i64 0, .int .u64 0, .float .f64 0, .string ⟨#[]⟩, .slice none 0 0] 43 (0, 0))).heap.size = w.heap.size + 2) := ⟨by omega⟩
  clear hs1 hs2
  generalize ((w.alloc (.cells #[.string T] 9 (0, 0))).alloc (.cells #[.string ⟨#[]⟩, .int .i64 0, .bool false, .int .i64 0, .int .u64 0, .float .f64 0, .string ⟨#[]⟩, .slice none 0 0] 43 (0, 0))) = w1 at *
  refine (tree22_calls l xs w.heap.size w1 (H20.out _ _ hX hB) H23.out).mono ?_
  rintro e w2 ⟨A, c, rfl, hlc, hF, hB2⟩
  have HZ : Aside0 (w2.heap[w.heap.size + 1]? = some (.cells #[.string ⟨#[]⟩, .int .i64 0, .bool false, .int .i64 0, .int .u64 0, .float .f64 0, .string ⟨#[]⟩, .slice none 0 0] 43 (0, 0)) ∧ Below w.heap.size w w2) := ⟨blk_below hZ hB2, below_step hB hB2⟩
  have HF : Aside0 (xs.length ≤ c ∧ Kd.F k43 w2 (fun k => w.heap.size + 2 ≤ k) A xs.length xs) := ⟨hlc, Kd.F_mono hF (fun k hk => by have := HS.out; omega)⟩
  clear hX hZ hB hB2 hF hlc HS H20 H23
  have z0 : ∀ j, w2.cell? ⟨w.heap.size + 1, j, none⟩ = (#[.string ⟨#[]⟩, .int .i64 0, .bool false, .int .i64 0, .int .u64 0, .float .f64 0, .string ⟨#[]⟩, .slice none 0 0] : Array Value)[j]? := fun j => (blk_cell HZ.out.1 j)
  have f0 : ∀ j, w2.frozen? ⟨w.heap.size + 1, j, none⟩ = false := fun j => blk_frozen HZ.out.1 j
  go_wp2_with fail
  refine bodyPost_ret (results_ct rfl _ _ (w.heap.size + 1) 43 _ (0, 0) _ rfl (put8 HZ.out.1 _ _ _ _ _ _ _ _) hu43 rfl (by kernel_rfl)) rfl ?_
  refine ⟨A, c, rfl, HF.out.1, Kd.F_mono (ok := fun k => w.heap.size + 2 ≤ k) ?_ (fun k hk => ?_), below_put8 HZ.out.2 (by omega) _ _ _ _ _ _ _ _⟩
  · refine F_setCell (F_setCell (F_setCell (F_setCell (F_setCell (F_setCell (F_setCell (F_setCell HF.out.2 _ _ ?_) _ _ ?_) _ _ ?_) _ _ ?_) _ _ ?_) _ _ ?_) _ _ ?_) _ _ ?_ <;> exact fun k hk => by show k ≠ w.heap.size + 1; omega
  · omega
end Go.Proofs.YtfcalbjebomgcaaGreatDoor.X
