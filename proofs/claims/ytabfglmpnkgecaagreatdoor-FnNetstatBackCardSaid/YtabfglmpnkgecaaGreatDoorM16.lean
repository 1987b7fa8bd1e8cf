/- The door's node of a ProcNetstat, by law. -/
import Derived.Test.YtabfglmpnkgecaaGreatDoorM15
import Derived.Test.YtabfglmpnkgecaaGreatDoorM01
import Derived.LoopN
import Derived.WalkMore
import Derived.Laws.Cover2
import Derived.Laws.FloatArith
import Derived.Shelf.Strings.Fields
import Derived.Test.YtabfglmpnkgecaaGreatDoorWWords
import Derived.Test.YtabfglmpnkgecaaGreatDoorM04
import Derived.StillTailTactics
import Derived.Lib.AtoiErrMem
set_option linter.unusedVariables false
set_option linter.unusedSimpArgs false
namespace Go.Proofs.YtabfglmpnkgecaaGreatDoor.X
open Go.RowKit Go.Proofs.YtabfglmpnkgecaaGreatDoorW.PrintWords Go.Proofs.YtabfglmpnkgecaaGreatDoorW.PrintLast Go.Proofs.YtabfglmpnkgecaaGreatDoorW.PrintMore Go.Proofs.YtabfglmpnkgecaaGreatDoor.Q
attribute [local go_sem] run_store_float

def intM (name : ByteArray) (n : Int) : S43 := ⟨name, 2, false, n, 0, (0 : Nat), ⟨#[]⟩, []⟩
def fieldOpsI (pos : String) (T j s : Nat) (name : ByteArray) : List Oper :=
  [mkO pos (some s) (.fieldAddr 43 (.tmp 5) 7) 0 [],
   mkO pos (some (s + 1)) (.load 41 (.tmp s)) 41 [⟨0, .data⟩],
   mkO pos (some (s + 2)) (.fieldAddr T (.tmp 3) j) 0 [],
   mkO pos (some (s + 3)) (.load 3 (.tmp (s + 2))) 3 [⟨2, .data⟩],
   mkO pos (some (s + 4)) (.build 43 #[(0, .const (.string name)), (1, .const (.int .i64 2)), (3, .tmp (s + 3))]) 43 [⟨3, .data⟩],
   mkO pos (some (s + 5)) (.buildSlice 41 1 #[(0, .tmp (s + 4))]) 41 [⟨4, .data⟩],
   mkO pos (some (s + 6)) (.call { callee := .builtin .append, args := #[.tmp (s + 1), .tmp (s + 5)], argTypes := #[41, 41] }) 41 [⟨1, .data⟩, ⟨5, .data⟩],
   mkO pos (some (s + 7)) (.fieldAddr 43 (.tmp 5) 7) 0 (ph 7),
   mkO pos none (.store 41 (.tmp (s + 7)) (.tmp (s + 6))) 0 (⟨7, .data⟩ :: ⟨6, .data⟩ :: ⟨6, .chain⟩ :: ph 7)]
theorem o_load3 (a : Act) (b : Nat) (W : World) (pos : String) (s t j : Nat) (v : Value) (af : List Edge) (h5 : a.eval (.tmp t) = .pointer (some ⟨b, j, none⟩)) (hc : W.cell? ⟨b, j, none⟩ = some v) :
  (execOp a.eval (mkO pos (some s) (.load 3 (.tmp t)) 3 af)).run Tryz.prog W = .ok (.value v) W := by
  have hu := Tryz.underlying3
  simp only [execOp, mkO, h5]
  go_simp
theorem o_build2 (a : Act) (W : World) (pos : String) (s t : Nat) (name : ByteArray) (n : Int) (af : List Edge) (h : a.eval (.tmp t) = .int .i64 n) :
  (execOp a.eval (mkO pos (some s) (.build 43 #[(0, .const (.string name)), (1, .const (.int .i64 2)), (3, .tmp t)]) 43 af)).run Tryz.prog W = .ok (.value (.agg #[.string name, .int .i64 2, .bool false, .int .i64 n, .int .u64 0, .float .f64 0, .string ⟨#[]⟩, .slice none 0 0])) W := by
  have hu := Tryz.underlying43
  have h' : a.tmps[t]?.getD undef = .int .i64 n := by rw [← h]; simp [Act.eval]
  simp only [execOp, mkO]
  go_simp
set_option maxRecDepth 100000 in
set_option maxHeartbeats 1000000 in
theorem fieldInt {w W : World} {T : TypeId} {name fname : ByteArray} {args : Array Value} {v : Value} {xs : List S43} {n : Int} {a : Act} {s j r : Nat} {pos : String} {Q : Exit → Act → World → Prop} {last : Code}
    (hB : BSt w T name args W v xs) (hlen : xs.length ≤ 1000) (hsz : s + 8 ≤ a.tmps.size) (hs : 5 < s) (hT : FieldIs T j 3)
    (hn : args[j]? = some (.int .i64 n))
    (h3 : a.eval (.tmp 3) = .pointer (some ⟨w.heap.size, 0, none⟩)) (h5 : a.eval (.tmp 5) = .pointer (some ⟨w.heap.size + 2, 0, none⟩))
    (k : ∀ a' W' v', (∀ t, t < s → a'.eval (.tmp t) = a.eval (.tmp t)) → a'.tmps.size = a.tmps.size → a'.defers = a.defers → BSt w T name args W' v' (xs ++ [intM fname n]) → last.wp Tryz.prog Q a' W') :
    (Code.seq (.region r (fieldOpsI pos T j s fname).toArray false) last).wp Tryz.prog Q a W := by
  obtain ⟨fs, f, hu, hj, ho, ht⟩ := hT
  refine wp_seq (wp_region_lit ?_)
  unfold fieldOpsI
  refine Kd.event_run rfl (o_addr7 _ (w.heap.size + 2) _ _ _ _ _ h5) ?_
  refine Kd.event_run rfl (o_load41 _ (w.heap.size + 2) _ _ _ _ 7 v _ (by simp only [mkO]; rw [ev_same (by omega)]) ((blk_cell hB.2.2.2.1 7).trans rfl)) ?_
  refine Kd.event_run rfl (o_addrO _ w.heap.size _ _ _ _ _ j 0 T _ (by simp only [mkO]; rw [ev_other (by omega), ev_other (by omega)]; exact h3) fs hu f hj ho (by rw [ht]; kernel_rfl)) ?_
  refine Kd.event_run rfl (o_load3 _ w.heap.size _ _ _ _ j (.int .i64 n) _ (by simp only [mkO]; rw [ev_same (by simp only [size_put]; omega)]) ((blk_cell hB.2.1 j).trans hn)) ?_
  refine Kd.event_run rfl (o_build2 _ _ _ _ _ fname n _ (by simp only [mkO]; rw [ev_same (by simp only [size_put]; omega)])) ?_
  refine tail_wp (d := s + 4) (s := s) (x := intM fname n) (A0 := none) (c0 := 0) (okp := fun _ => False) hB hlen ?_ ⟨hs, by omega⟩ ?_ ?_ ?_ (leafM_FK W _ (intM fname n) rfl) (fun k hk => hk.elim) ?_
  · simp only [mkO, size_put]; omega
  · simp only [mkO]; rw [ev_other (by omega), ev_other (by omega), ev_other (by omega), ev_other (by omega), ev_other (by omega)]; exact h5
  · simp only [mkO]; rw [ev_other (by omega), ev_other (by omega), ev_other (by omega), ev_same (by simp only [size_put]; omega)]
  · simp only [mkO]; rw [ev_same (by simp only [size_put]; omega)]; rfl
  · intro a' W' v' h1 h2 h3' h4
    refine k a' W' v' (fun t ht => ?_) ?_ ?_ h4
    · rw [h1 t (by omega)]
      simp only [mkO]; rw [ev_other (by omega), ev_other (by omega), ev_other (by omega), ev_other (by omega), ev_other (by omega)]
    · rw [h2]; simp only [mkO, size_put]
    · rw [h3']; simp only [mkO, defers_put]
set_option maxRecDepth 100000 in
theorem body21 : Tryz.f21.body = some (.seq (.region 0 #[mkO "nodes.go:505" (some 3) (.box 58 (.tmp 1)) 0 [], mkO "nodes.go:505" (some 4) (.alloc 43) 0 []] false)
      (.seq (.region 1 #[mkO "nodes.go:506" (some 6) (.move (.tmp 0)) 9 [], mkO "nodes.go:506" (some 7) (.build 43 #[(0, .tmp 6), (1, .const (.int .i64 8))]) 43 [⟨0, .data⟩], mkO "nodes.go:506" (some 5) (.alloc 43) 0 [], mkO "nodes.go:506" none (.store 43 (.tmp 5) (.tmp 7)) 0 [⟨2, .data⟩, ⟨1, .data⟩, ⟨0, .phase⟩, ⟨1, .phase⟩, ⟨2, .phase⟩]] false)
        (.seq (.region 2 (fieldOpsI "nodes.go:507" 58 0 8 ⟨#[80, 73, 68]⟩).toArray false) (.seq (.region 3 (callOps "nodes.go:508" 58 1 16 38 54 #[.const (.string ⟨#[84, 99, 112, 69, 120, 116]⟩), .tmp 19] #[9, 54]).toArray true)
          (.seq (.region 4 (callOps "nodes.go:509" 58 2 24 39 56 #[.const (.string ⟨#[73, 112, 69, 120, 116]⟩), .tmp 27] #[9, 56]).toArray true) (endCode "nodes.go:510" 5 32)))))) := by kernel_rfl
theorem tab21a : rtab .any (callOps "nodes.go:508" 58 1 16 38 54 #[.const (.string ⟨#[84, 99, 112, 69, 120, 116]⟩), .tmp 19] #[9, 54]).toArray = callT := by kernel_rfl
theorem tab21b : rtab .any (callOps "nodes.go:509" 58 2 24 39 56 #[.const (.string ⟨#[73, 112, 69, 120, 116]⟩), .tmp 27] #[9, 56]).toArray = callT := by kernel_rfl
theorem size54 : (Tryz.prog.info? 54).map (·.size) = some 123 := by kernel_rfl
theorem size56 : (Tryz.prog.info? 56).map (·.size) = some 18 := by kernel_rfl
/-- The nodes of a ProcNetstat. -/
def netKids (M : Nat → Option Nat) : List S43 := [intM ⟨#[80, 73, 68]⟩ 0, recM ⟨#[84, 99, 112, 69, 120, 116]⟩ (kidsFrom M tcpFlds 0), recM ⟨#[73, 112, 69, 120, 116]⟩ (kidsFrom (fun j => M (123 + j)) ipFlds 0)]
theorem part_get (args : Array Value) (o n j : Nat) (hj : j < n) : ((args.toList.drop o).take n).toArray[j]? = args[o + j]? := by
  rw [List.getElem?_toArray, List.getElem?_take_of_lt hj, List.getElem?_drop]
  simp
set_option maxRecDepth 100000 in
set_option maxHeartbeats 1000000 in
theorem net21_calls (name : ByteArray) (args : Array Value) (M : Nat → Option Nat) (B : Nat) (w : World) (hM : CellsOk w B M args) : Calls Tryz.prog 21 #[.string name, .agg args] w (ElPost w (recM name (netKids M))) := by
  obtain ⟨hsz142, hpid, hMj⟩ := hM
  refine calls_of_wp Tryz.func21 body21 ?_
  obtain ⟨a, ha⟩ : ∃ a : Act, a = { tmps := #[.string name, .agg args] ++ Array.replicate (Tryz.f21.ntmps - (#[.string name, .agg args] : Array Value).size) undef, defers := [] } := ⟨_, rfl⟩
  rw [← ha]
  have e0 : a.eval (.tmp 0) = .string name := by rw [ha]; simp only [Act.eval, Array.getD_eq_getD_getElem?]; rw [Array.getElem?_append_left (by simp)]; rfl
  have e1 : a.eval (.tmp 1) = .agg args := by rw [ha]; simp only [Act.eval, Array.getD_eq_getD_getElem?]; rw [Array.getElem?_append_left (by simp)]; rfl
  have hd : a.defers = [] := by rw [ha]
  have hsz : a.tmps.size = 33 := by
    rw [ha]
    have : Tryz.f21.ntmps = 33 := Tryz.ntmps21
    simp [this]
  clear ha
  obtain ⟨fs1, f1, n1, g11, g12, g13, g14⟩ := net_field1
  obtain ⟨fs2, f2, n2, g21, g22, g23, g24⟩ := net_field2
  refine head_wp 58 _ _ _ _ name args a w e0 e1 (by omega) ?_
  intro a1 W1 q1 q2 q3 q4 q5 q6
  refine fieldInt q6 (by simp) (by omega) (by omega) ⟨_, _, Tryz.underlying58, rfl, rfl, rfl⟩ hpid q3 q5 ?_
  intro a2 W2 v2 r1 r2 r3 r4
  refine callField (x := recM ⟨#[84, 99, 112, 69, 120, 116]⟩ (kidsFrom M tcpFlds 0)) (lv := .agg ((args.toList.drop 1).take 123).toArray) (vals := #[.string ⟨#[84, 99, 112, 69, 120, 116]⟩, .agg ((args.toList.drop 1).take 123).toArray]) r4 (by simp) (by omega) (by omega) tab21a fs1 g11 f1 g12 g13 g14 ?_ ?_ Tryz.func38 (by kernel_rfl) (by kernel_rfl) ?_ (by rw [r1 3 (by omega)]; exact q3) (by rw [r1 5 (by omega)]; exact q5) ?_
  · intro a' W' z1 z2
    refine o_loadR _ w.heap.size 1 _ _ _ _ 54 ((args.toList.drop 1).take 123) _ z1 (fun j v hv => ?_) _ Tryz.underlying54 rfl (by rw [size54]; simp [hsz142])
    have hj : j < 123 := by
      have := (List.getElem?_eq_some_iff.1 hv).1
      simp at this
      omega
    rw [blk_cell z2, ← part_get args 1 123 j hj, List.getElem?_toArray]
    exact hv
  · intro a' q
    simp only [List.map_toArray, List.map_cons, List.map_nil]
    rw [q]
    rfl
  · intro w1 hb
    refine tcp_calls _ _ M B w1 (fun j hj => ?_)
    obtain ⟨v, hv, hp⟩ := hMj j (by omega)
    exact ⟨v, by rw [part_get args 1 123 j hj, Nat.add_comm]; exact hv, hp.step (fun k _ hk => hb.block k hk)⟩
  intro a3 W3 v3 s1 s2 s3 s4
  refine callField (x := recM ⟨#[73, 112, 69, 120, 116]⟩ (kidsFrom (fun j => M (123 + j)) ipFlds 0)) (lv := .agg ((args.toList.drop 124).take 18).toArray) (vals := #[.string ⟨#[73, 112, 69, 120, 116]⟩, .agg ((args.toList.drop 124).take 18).toArray]) s4 (by simp) (by omega) (by omega) tab21b fs2 g21 f2 g22 g23 g24 ?_ ?_ Tryz.func39 (by kernel_rfl) (by kernel_rfl) ?_ (by rw [s1 3 (by omega), r1 3 (by omega)]; exact q3) (by rw [s1 5 (by omega), r1 5 (by omega)]; exact q5) ?_
  · intro a' W' z1 z2
    refine o_loadR _ w.heap.size 124 _ _ _ _ 56 ((args.toList.drop 124).take 18) _ z1 (fun j v hv => ?_) _ Tryz.underlying56 rfl (by rw [size56]; simp [hsz142])
    have hj : j < 18 := by
      have := (List.getElem?_eq_some_iff.1 hv).1
      simp at this
      omega
    rw [blk_cell z2, ← part_get args 124 18 j hj, List.getElem?_toArray]
    exact hv
  · intro a' q
    simp only [List.map_toArray, List.map_cons, List.map_nil]
    rw [q]
    rfl
  · intro w1 hb
    refine ip_calls _ _ (fun j => M (123 + j)) B w1 (fun j hj => ?_)
    obtain ⟨v, hv, hp⟩ := hMj (123 + j) (by omega)
    exact ⟨v, by rw [part_get args 124 18 j hj, show 124 + j = 123 + j + 1 by omega]; exact hv, hp.step (fun k _ hk => hb.block k hk)⟩
  intro a4 W4 v4 t1 t2 t3 t4
  exact end_wp 58 "nodes.go:510" Tryz.f21 rfl w name args 5 32 a4 W4 v4 _ t4 (by omega) (by omega) (by rw [t1 4 (by omega), s1 4 (by omega), r1 4 (by omega)]; exact q4) (by rw [t1 5 (by omega), s1 5 (by omega), r1 5 (by omega)]; exact q5) (by rw [t3, s3, r3, q2, hd])
set_option maxRecDepth 100000 in
set_option maxHeartbeats 1000000 in
theorem net20_calls (args : Array Value) (M : Nat → Option Nat) (B : Nat) (w : World) (hM : CellsOk w B M args) : Calls Tryz.prog 20 #[.agg args] w (ElPost w (recM ⟨#[]⟩ (netKids M))) := by
  refine calls_of_wp Tryz.func20 (c := .seq (.region 0 [mkO "doors.go:163" (some 1) (.box 58 (.tmp 0)) 0 [], mkO "doors.go:163" (some 2) (.alloc 43) 0 []].toArray false)
    (.seq (.region 1 [mkO "doors.go:163" (some 3) (.load 58 (.tmp 1)) 58 [], mkO "doors.go:163" (some 4) (.call { callee := .value (.func 21), args := #[.const (.string ⟨#[]⟩), .tmp 3], argTypes := #[9, 58] }) 43 [⟨0, .data⟩], mkO "doors.go:163" none (.store 43 (.tmp 2) (.tmp 4)) 0 [⟨1, .data⟩, ⟨1, .chain⟩, ⟨0, .phase⟩, ⟨1, .phase⟩]].toArray false) .ret)) (by kernel_rfl) ?_
  obtain ⟨a, ha⟩ : ∃ a : Act, a = { tmps := #[.agg args] ++ Array.replicate (Tryz.f20.ntmps - (#[.agg args] : Array Value).size) undef, defers := [] } := ⟨_, rfl⟩
  rw [← ha]
  have e0 : a.eval (.tmp 0) = .agg args := by rw [ha]; simp only [Act.eval, Array.getD_eq_getD_getElem?]; rw [Array.getElem?_append_left (by simp)]; rfl
  have hd : a.defers = [] := by rw [ha]
  have hsz : a.tmps.size = 5 := by
    rw [ha]
    have : Tryz.f20.ntmps = 5 := Tryz.ntmps20
    simp [this]
  clear ha
  refine wp_seq (wp_region_lit ?_)
  refine Kd.event_run rfl (o_box _ _ _ _ _ _ args _ e0) ?_
  refine Kd.event_run rfl (o_alloc43 _ _ _ _ _) ?_
  refine wpList_nil ?_
  have s1 : (w.alloc (.cells args 58)).heap.size = w.heap.size + 1 := World.size_alloc _ _
  have b0 := blk_alloc (blk_new w (.cells args 58)) (.cells #[.string ⟨#[]⟩, .int .i64 0, .bool false, .int .i64 0, .int .u64 0, .float .f64 0, .string ⟨#[]⟩, .slice none 0 0] 43)
  have b1 := blk_new (w.alloc (.cells args 58)) (.cells #[.string ⟨#[]⟩, .int .i64 0, .bool false, .int .i64 0, .int .u64 0, .float .f64 0, .string ⟨#[]⟩, .slice none 0 0] 43)
  have hB := below_alloc (below_alloc (Below.refl w.heap.size w) (.cells args 58)) (.cells #[.string ⟨#[]⟩, .int .i64 0, .bool false, .int .i64 0, .int .u64 0, .float .f64 0, .string ⟨#[]⟩, .slice none 0 0] 43)
  refine wp_seq (wp_region_lit ?_)
  refine Kd.event_run rfl (o_loadR _ w.heap.size 0 _ _ _ _ 58 args.toList _ (by simp only [mkO]; rw [ev_other (by omega), ev_same (by omega)]) (fun j v hv => by rw [Nat.zero_add, blk_cell b0]; simpa using hv) _ Tryz.underlying58 rfl (by rw [size58]; simp [hM.1])) ?_
  refine goesL_ (some 4) rfl rfl Tryz.func21 (by kernel_rfl) (by kernel_rfl) #[.string ⟨#[]⟩, .agg args] rfl ?_ ?_
  · simp only [mkO, List.map_toArray, List.map_cons, List.map_nil]
    rw [ev_same (by simp only [size_put]; omega)]
    rfl
  refine (net21_calls ⟨#[]⟩ args M B _ ⟨hM.1, hM.2.1, fun j hj => by obtain ⟨v, hv, hp⟩ := hM.2.2 j hj; exact ⟨v, hv, hp.step (fun k _ hk => hB.block k hk)⟩⟩).mono ?_
  rintro e W1 ⟨A, c, rfl, hl, hF, hB1⟩
  refine ⟨_, rfl, ?_⟩
  rw [s1] at b1
  have s2 : ((w.alloc (.cells args 58)).alloc (.cells #[.string ⟨#[]⟩, .int .i64 0, .bool false, .int .i64 0, .int .u64 0, .float .f64 0, .string ⟨#[]⟩, .slice none 0 0] 43)).heap.size = w.heap.size + 2 := by rw [World.size_alloc, s1]
  refine store_ret (fn := Tryz.f20) rfl w W1 (recM ⟨#[]⟩ (netKids M)) A c _ (w.heap.size + 1) _ _ _ _ _ _ _ _ ?_ ?_ (blk_below b1 hB1) (by omega) hl (Kd.F_mono hF (fun k hk => by constructor <;> omega)) (below_step hB hB1) ?_ (fun _ _ h => h)
  · simp only [mkO]; rw [ev_other (by omega), ev_other (by omega), ev_same (by simp only [size_put]; omega), s1]
  · simp only [mkO]; rw [ev_same (by simp only [size_put]; omega)]
  · simp only [mkO, defers_put]; exact hd
end Go.Proofs.YtabfglmpnkgecaaGreatDoor.X

/- readFloat and special at the three texts of lives. (Written by a program of this claim.) -/
namespace Go.Proofs.YtabfglmpnkgecaaGreatDoor.X
open Go.RowKit Go.Proofs.YtabfglmpnkgecaaGreatDoorW.PrintWords Go.Proofs.YtabfglmpnkgecaaGreatDoorW.PrintLast Go.Proofs.YtabfglmpnkgecaaGreatDoorW.PrintMore Go.Proofs.YtabfglmpnkgecaaGreatDoor.Q
set_option maxHeartbeats 8000000 in
set_option maxRecDepth 100000 in
theorem rf05 (w : World) : Calls Tryz.prog 220 #[.string ⟨#[48, 46, 53]⟩] w fun e w' => e = .returned (.tuple #[.int .u64 5, .int .i64 (-1), .bool false, .bool false, .bool false, .int .i64 3, .bool true]) ∧ w' = w := by
  go_enter Tryz.func220, Tryz.ntmps220
  go_wp2
  go_step3
  go_wp2
  go_step3
  go_wp2
  refine wp_loop_rounds 4 ?_
  rw [rounds_succ]
  go_wp2
  rw [rounds_succ]
  go_wp2
  rw [rounds_succ]
  go_wp2
  rw [rounds_succ]
  go_wp2
  rw [Exit.noGoto_ret]
  refine bodyPost_ret (v := .tuple #[.int .u64 5, .int .i64 (-1), .bool false, .bool false, .bool false, .int .i64 3, .bool true]) ?_ rfl ⟨rfl, rfl⟩
  simp [results, Tryz.results220]
  try decide
theorem sp05 (w : World) : Calls Tryz.prog 219 #[.string ⟨#[48, 46, 53]⟩] w fun e w' => e = .returned (.tuple #[.float .f64 0, .int .i64 0, .bool false]) ∧ w' = w := by
  go_enter Tryz.func219, Tryz.ntmps219
  go_wp2
  refine bodyPost_ret (v := .tuple #[.float .f64 0, .int .i64 0, .bool false]) ?_ rfl ⟨rfl, rfl⟩
  simp [results, Tryz.results219]
set_option maxHeartbeats 8000000 in
set_option maxRecDepth 100000 in
theorem rf025 (w : World) : Calls Tryz.prog 220 #[.string ⟨#[48, 46, 50, 53]⟩] w fun e w' => e = .returned (.tuple #[.int .u64 25, .int .i64 (-2), .bool false, .bool false, .bool false, .int .i64 4, .bool true]) ∧ w' = w := by
  go_enter Tryz.func220, Tryz.ntmps220
  go_wp2
  go_step3
  go_wp2
  go_step3
  go_wp2
  refine wp_loop_rounds 5 ?_
  rw [rounds_succ]
  go_wp2
  rw [rounds_succ]
  go_wp2
  rw [rounds_succ]
  go_wp2
  rw [rounds_succ]
  go_wp2
  rw [rounds_succ]
  go_wp2
  rw [Exit.noGoto_ret]
  refine bodyPost_ret (v := .tuple #[.int .u64 25, .int .i64 (-2), .bool false, .bool false, .bool false, .int .i64 4, .bool true]) ?_ rfl ⟨rfl, rfl⟩
  simp [results, Tryz.results220]
  try decide
theorem sp025 (w : World) : Calls Tryz.prog 219 #[.string ⟨#[48, 46, 50, 53]⟩] w fun e w' => e = .returned (.tuple #[.float .f64 0, .int .i64 0, .bool false]) ∧ w' = w := by
  go_enter Tryz.func219, Tryz.ntmps219
  go_wp2
  refine bodyPost_ret (v := .tuple #[.float .f64 0, .int .i64 0, .bool false]) ?_ rfl ⟨rfl, rfl⟩
  simp [results, Tryz.results219]
set_option maxHeartbeats 8000000 in
set_option maxRecDepth 100000 in
theorem rf075 (w : World) : Calls Tryz.prog 220 #[.string ⟨#[48, 46, 55, 53]⟩] w fun e w' => e = .returned (.tuple #[.int .u64 75, .int .i64 (-2), .bool false, .bool false, .bool false, .int .i64 4, .bool true]) ∧ w' = w := by
  go_enter Tryz.func220, Tryz.ntmps220
  go_wp2
  go_step3
  go_wp2
  go_step3
  go_wp2
  refine wp_loop_rounds 5 ?_
  rw [rounds_succ]
  go_wp2
  rw [rounds_succ]
  go_wp2
  rw [rounds_succ]
  go_wp2
  rw [rounds_succ]
  go_wp2
  rw [rounds_succ]
  go_wp2
  rw [Exit.noGoto_ret]
  refine bodyPost_ret (v := .tuple #[.int .u64 75, .int .i64 (-2), .bool false, .bool false, .bool false, .int .i64 4, .bool true]) ?_ rfl ⟨rfl, rfl⟩
  simp [results, Tryz.results220]
  try decide
theorem sp075 (w : World) : Calls Tryz.prog 219 #[.string ⟨#[48, 46, 55, 53]⟩] w fun e w' => e = .returned (.tuple #[.float .f64 0, .int .i64 0, .bool false]) ∧ w' = w := by
  go_enter Tryz.func219, Tryz.ntmps219
  go_wp2
  refine bodyPost_ret (v := .tuple #[.float .f64 0, .int .i64 0, .bool false]) ?_ rfl ⟨rfl, rfl⟩
  simp [results, Tryz.results219]
end Go.Proofs.YtabfglmpnkgecaaGreatDoor.X

/- ParseFloat at the three texts of lives. (Written by a program of this claim.) -/
namespace Go.Proofs.YtabfglmpnkgecaaGreatDoor.X
open Go.RowKit Go.Proofs.YtabfglmpnkgecaaGreatDoorW.PrintWords Go.Proofs.YtabfglmpnkgecaaGreatDoorW.PrintLast Go.Proofs.YtabfglmpnkgecaaGreatDoorW.PrintMore Go.Proofs.YtabfglmpnkgecaaGreatDoor.Q
/-- What lives needs of the package-level variables. -/
def VarsAt (x : Addr) (n c : Nat) (W : World) : Prop := W.cell? ⟨6, 0, none⟩ = some (.bool true) ∧ W.cell? ⟨7, 0, none⟩ = some (.int .u64 52) ∧ W.cell? ⟨10, 0, none⟩ = some (.slice (some x) n c) ∧
  W.cell? ⟨x.block, x.off + 1, none⟩ = some (.float .f64 4621819117588971520) ∧ W.cell? ⟨x.block, x.off + 2, none⟩ = some (.float .f64 4636737291354636288)
set_option maxHeartbeats 8000000 in
set_option maxRecDepth 100000 in
theorem ex05 (x : Addr) (n c : Nat) (hn : 3 ≤ n) (hnc : n ≤ 1000) (w : World) (h : VarsAt x n c w) : Calls Tryz.prog 230 #[.int .u64 5, .int .i64 (-1), .bool false] w fun e w' => e = .returned (.tuple #[.float .f64 4602678819172646912, .bool true]) ∧ w' = w := by
  obtain ⟨h6, h7, h10, h1, h2⟩ := h
  have hn1 : (1 : Int) < (n : Int) := by omega
  have hn2 : (2 : Int) < (n : Int) := by omega
  have hu := Tryz.underlying119
  have hu36 := Tryz.underlying36
  have hcv : (convert 35 36 (.int .u64 5)).run Tryz.prog w = .ok (.float .f64 4617315517961601024) w := (run_convert_int_float w 35 36 .u64 .f64 5 (by kernel_rfl) hu36).trans (by kernel_rfl)
  have hq : (binOp .quo 36 (.float .f64 4617315517961601024) (.float .f64 4621819117588971520)).run Tryz.prog w = .ok (.float .f64 4602678819172646912) w := run_float_arith w _ _ _ _ _ _ (by kernel_rfl)
  go_enter Tryz.func230, Tryz.ntmps230
  go_wp2
  go_ret2
  exact ⟨rfl, rfl⟩
set_option maxHeartbeats 8000000 in
set_option maxRecDepth 100000 in
theorem at05 (x : Addr) (n c : Nat) (hn : 3 ≤ n) (hnc : n ≤ 1000) (w : World) (h : VarsAt x n c w) : Calls Tryz.prog 215 #[.string ⟨#[48, 46, 53]⟩] w fun e w' => e = .returned (.tuple #[.float .f64 4602678819172646912, .int .i64 3, .nilIface]) ∧ w' = w := by
  have H := Aside0.mk h
  have h6 := h.1
  clear h
  go_enter Tryz.func215, Tryz.ntmps215
  go_wp2_with (first | (go_at_call 219; refine (sp05 _).mono ?_; rintro e w' ⟨rfl, rfl⟩) | (go_at_call 220; refine (rf05 _).mono ?_; rintro e w' ⟨rfl, rfl⟩) | (go_at_call 230; refine (ex05 x n c hn hnc _ H.out).mono ?_; rintro e w' ⟨rfl, rfl⟩) | (go_at_call 228; go_in))
  refine bodyPost_ret (v := .tuple #[.float .f64 4602678819172646912, .int .i64 3, .nilIface]) ?_ rfl ⟨rfl, rfl⟩
  simp [results, Tryz.results215]
set_option maxHeartbeats 8000000 in
set_option maxRecDepth 100000 in
theorem pp05 (x : Addr) (n c : Nat) (hn : 3 ≤ n) (hnc : n ≤ 1000) (w : World) (h : VarsAt x n c w) : Calls Tryz.prog 207 #[.string ⟨#[48, 46, 53]⟩, .int .i64 64] w fun e w' => e = .returned (.tuple #[.float .f64 4602678819172646912, .int .i64 3, .nilIface]) ∧ w' = w := by
  have H := Aside0.mk h
  clear h
  go_enter Tryz.func207, Tryz.ntmps207
  go_wp2_with (go_at_call 215; refine (at05 x n c hn hnc _ H.out).mono ?_; rintro e w' ⟨rfl, rfl⟩)
  refine bodyPost_ret (v := .tuple #[.float .f64 4602678819172646912, .int .i64 3, .nilIface]) ?_ rfl ⟨rfl, rfl⟩
  simp [results, Tryz.results207]
set_option maxHeartbeats 8000000 in
set_option maxRecDepth 100000 in
theorem pi05 (x : Addr) (n c : Nat) (hn : 3 ≤ n) (hnc : n ≤ 1000) (w : World) (h : VarsAt x n c w) : Calls Tryz.prog 203 #[.string ⟨#[48, 46, 53]⟩, .int .i64 64] w fun e w' => e = .returned (.tuple #[.float .f64 4602678819172646912, .nilIface]) ∧ w' = w := by
  have H := Aside0.mk h
  clear h
  go_enter Tryz.func203, Tryz.ntmps203
  go_wp2_with (go_at_call 207; refine (pp05 x n c hn hnc _ H.out).mono ?_; rintro e w' ⟨rfl, rfl⟩)
  go_ret2
  exact ⟨rfl, rfl⟩
set_option maxHeartbeats 8000000 in
set_option maxRecDepth 100000 in
theorem pf05 (x : Addr) (n c : Nat) (hn : 3 ≤ n) (hnc : n ≤ 1000) (w : World) (h : VarsAt x n c w) : Calls Tryz.prog 53 #[.string ⟨#[48, 46, 53]⟩, .int .i64 64] w fun e w' => e = .returned (.tuple #[.float .f64 4602678819172646912, .nilIface]) ∧ w' = w := by
  have H := Aside0.mk h
  clear h
  go_enter Tryz.func53, Tryz.ntmps53
  go_wp2_with (go_at_call 203; refine (pi05 x n c hn hnc _ H.out).mono ?_; rintro e w' ⟨rfl, rfl⟩)
  go_ret2
  exact ⟨rfl, rfl⟩
set_option maxHeartbeats 8000000 in
set_option maxRecDepth 100000 in
theorem ex025 (x : Addr) (n c : Nat) (hn : 3 ≤ n) (hnc : n ≤ 1000) (w : World) (h : VarsAt x n c w) : Calls Tryz.prog 230 #[.int .u64 25, .int .i64 (-2), .bool false] w fun e w' => e = .returned (.tuple #[.float .f64 4598175219545276416, .bool true]) ∧ w' = w := by
  obtain ⟨h6, h7, h10, h1, h2⟩ := h
  have hn1 : (1 : Int) < (n : Int) := by omega
  have hn2 : (2 : Int) < (n : Int) := by omega
  have hu := Tryz.underlying119
  have hu36 := Tryz.underlying36
  have hcv : (convert 35 36 (.int .u64 25)).run Tryz.prog w = .ok (.float .f64 4627730092099895296) w := (run_convert_int_float w 35 36 .u64 .f64 25 (by kernel_rfl) hu36).trans (by kernel_rfl)
  have hq : (binOp .quo 36 (.float .f64 4627730092099895296) (.float .f64 4636737291354636288)).run Tryz.prog w = .ok (.float .f64 4598175219545276416) w := run_float_arith w _ _ _ _ _ _ (by kernel_rfl)
  go_enter Tryz.func230, Tryz.ntmps230
  go_wp2
  go_ret2
  exact ⟨rfl, rfl⟩
set_option maxHeartbeats 8000000 in
set_option maxRecDepth 100000 in
theorem at025 (x : Addr) (n c : Nat) (hn : 3 ≤ n) (hnc : n ≤ 1000) (w : World) (h : VarsAt x n c w) : Calls Tryz.prog 215 #[.string ⟨#[48, 46, 50, 53]⟩] w fun e w' => e = .returned (.tuple #[.float .f64 4598175219545276416, .int .i64 4, .nilIface]) ∧ w' = w := by
  have H := Aside0.mk h
  have h6 := h.1
  clear h
  go_enter Tryz.func215, Tryz.ntmps215
  go_wp2_with (first | (go_at_call 219; refine (sp025 _).mono ?_; rintro e w' ⟨rfl, rfl⟩) | (go_at_call 220; refine (rf025 _).mono ?_; rintro e w' ⟨rfl, rfl⟩) | (go_at_call 230; refine (ex025 x n c hn hnc _ H.out).mono ?_; rintro e w' ⟨rfl, rfl⟩) | (go_at_call 228; go_in))
  refine bodyPost_ret (v := .tuple #[.float .f64 4598175219545276416, .int .i64 4, .nilIface]) ?_ rfl ⟨rfl, rfl⟩
  simp [results, Tryz.results215]
set_option maxHeartbeats 8000000 in
set_option maxRecDepth 100000 in
theorem pp025 (x : Addr) (n c : Nat) (hn : 3 ≤ n) (hnc : n ≤ 1000) (w : World) (h : VarsAt x n c w) : Calls Tryz.prog 207 #[.string ⟨#[48, 46, 50, 53]⟩, .int .i64 64] w fun e w' => e = .returned (.tuple #[.float .f64 4598175219545276416, .int .i64 4, .nilIface]) ∧ w' = w := by
  have H := Aside0.mk h
  clear h
  go_enter Tryz.func207, Tryz.ntmps207
  go_wp2_with (go_at_call 215; refine (at025 x n c hn hnc _ H.out).mono ?_; rintro e w' ⟨rfl, rfl⟩)
  refine bodyPost_ret (v := .tuple #[.float .f64 4598175219545276416, .int .i64 4, .nilIface]) ?_ rfl ⟨rfl, rfl⟩
  simp [results, Tryz.results207]
set_option maxHeartbeats 8000000 in
set_option maxRecDepth 100000 in
theorem pi025 (x : Addr) (n c : Nat) (hn : 3 ≤ n) (hnc : n ≤ 1000) (w : World) (h : VarsAt x n c w) : Calls Tryz.prog 203 #[.string ⟨#[48, 46, 50, 53]⟩, .int .i64 64] w fun e w' => e = .returned (.tuple #[.float .f64 4598175219545276416, .nilIface]) ∧ w' = w := by
  have H := Aside0.mk h
  clear h
  go_enter Tryz.func203, Tryz.ntmps203
  go_wp2_with (go_at_call 207; refine (pp025 x n c hn hnc _ H.out).mono ?_; rintro e w' ⟨rfl, rfl⟩)
  go_ret2
  exact ⟨rfl, rfl⟩
set_option maxHeartbeats 8000000 in
set_option maxRecDepth 100000 in
theorem pf025 (x : Addr) (n c : Nat) (hn : 3 ≤ n) (hnc : n ≤ 1000) (w : World) (h : VarsAt x n c w) : Calls Tryz.prog 53 #[.string ⟨#[48, 46, 50, 53]⟩, .int .i64 64] w fun e w' => e = .returned (.tuple #[.float .f64 4598175219545276416, .nilIface]) ∧ w' = w := by
  have H := Aside0.mk h
  clear h
  go_enter Tryz.func53, Tryz.ntmps53
  go_wp2_with (go_at_call 203; refine (pi025 x n c hn hnc _ H.out).mono ?_; rintro e w' ⟨rfl, rfl⟩)
  go_ret2
  exact ⟨rfl, rfl⟩
set_option maxHeartbeats 8000000 in
set_option maxRecDepth 100000 in
theorem ex075 (x : Addr) (n c : Nat) (hn : 3 ≤ n) (hnc : n ≤ 1000) (w : World) (h : VarsAt x n c w) : Calls Tryz.prog 230 #[.int .u64 75, .int .i64 (-2), .bool false] w fun e w' => e = .returned (.tuple #[.float .f64 4604930618986332160, .bool true]) ∧ w' = w := by
  obtain ⟨h6, h7, h10, h1, h2⟩ := h
  have hn1 : (1 : Int) < (n : Int) := by omega
  have hn2 : (2 : Int) < (n : Int) := by omega
  have hu := Tryz.underlying119
  have hu36 := Tryz.underlying36
  have hcv : (convert 35 36 (.int .u64 75)).run Tryz.prog w = .ok (.float .f64 4634978072750194688) w := (run_convert_int_float w 35 36 .u64 .f64 75 (by kernel_rfl) hu36).trans (by kernel_rfl)
  have hq : (binOp .quo 36 (.float .f64 4634978072750194688) (.float .f64 4636737291354636288)).run Tryz.prog w = .ok (.float .f64 4604930618986332160) w := run_float_arith w _ _ _ _ _ _ (by kernel_rfl)
  go_enter Tryz.func230, Tryz.ntmps230
  go_wp2
  go_ret2
  exact ⟨rfl, rfl⟩
set_option maxHeartbeats 8000000 in
set_option maxRecDepth 100000 in
theorem at075 (x : Addr) (n c : Nat) (hn : 3 ≤ n) (hnc : n ≤ 1000) (w : World) (h : VarsAt x n c w) : Calls Tryz.prog 215 #[.string ⟨#[48, 46, 55, 53]⟩] w fun e w' => e = .returned (.tuple #[.float .f64 4604930618986332160, .int .i64 4, .nilIface]) ∧ w' = w := by
  have H := Aside0.mk h
  have h6 := h.1
  clear h
  go_enter Tryz.func215, Tryz.ntmps215
  go_wp2_with (first | (go_at_call 219; refine (sp075 _).mono ?_; rintro e w' ⟨rfl, rfl⟩) | (go_at_call 220; refine (rf075 _).mono ?_; rintro e w' ⟨rfl, rfl⟩) | (go_at_call 230; refine (ex075 x n c hn hnc _ H.out).mono ?_; rintro e w' ⟨rfl, rfl⟩) | (go_at_call 228; go_in))
  refine bodyPost_ret (v := .tuple #[.float .f64 4604930618986332160, .int .i64 4, .nilIface]) ?_ rfl ⟨rfl, rfl⟩
  simp [results, Tryz.results215]
set_option maxHeartbeats 8000000 in
set_option maxRecDepth 100000 in
theorem pp075 (x : Addr) (n c : Nat) (hn : 3 ≤ n) (hnc : n ≤ 1000) (w : World) (h : VarsAt x n c w) : Calls Tryz.prog 207 #[.string ⟨#[48, 46, 55, 53]⟩, .int .i64 64] w fun e w' => e = .returned (.tuple #[.float .f64 4604930618986332160, .int .i64 4, .nilIface]) ∧ w' = w := by
  have H := Aside0.mk h
  clear h
  go_enter Tryz.func207, Tryz.ntmps207
  go_wp2_with (go_at_call 215; refine (at075 x n c hn hnc _ H.out).mono ?_; rintro e w' ⟨rfl, rfl⟩)
  refine bodyPost_ret (v := .tuple #[.float .f64 4604930618986332160, .int .i64 4, .nilIface]) ?_ rfl ⟨rfl, rfl⟩
  simp [results, Tryz.results207]
set_option maxHeartbeats 8000000 in
set_option maxRecDepth 100000 in
theorem pi075 (x : Addr) (n c : Nat) (hn : 3 ≤ n) (hnc : n ≤ 1000) (w : World) (h : VarsAt x n c w) : Calls Tryz.prog 203 #[.string ⟨#[48, 46, 55, 53]⟩, .int .i64 64] w fun e w' => e = .returned (.tuple #[.float .f64 4604930618986332160, .nilIface]) ∧ w' = w := by
  have H := Aside0.mk h
  clear h
  go_enter Tryz.func203, Tryz.ntmps203
  go_wp2_with (go_at_call 207; refine (pp075 x n c hn hnc _ H.out).mono ?_; rintro e w' ⟨rfl, rfl⟩)
  go_ret2
  exact ⟨rfl, rfl⟩
set_option maxHeartbeats 8000000 in
set_option maxRecDepth 100000 in
theorem pf075 (x : Addr) (n c : Nat) (hn : 3 ≤ n) (hnc : n ≤ 1000) (w : World) (h : VarsAt x n c w) : Calls Tryz.prog 53 #[.string ⟨#[48, 46, 55, 53]⟩, .int .i64 64] w fun e w' => e = .returned (.tuple #[.float .f64 4604930618986332160, .nilIface]) ∧ w' = w := by
  have H := Aside0.mk h
  clear h
  go_enter Tryz.func53, Tryz.ntmps53
  go_wp2_with (go_at_call 203; refine (pi075 x n c hn hnc _ H.out).mono ?_; rintro e w' ⟨rfl, rfl⟩)
  go_ret2
  exact ⟨rfl, rfl⟩
end Go.Proofs.YtabfglmpnkgecaaGreatDoor.X

/- strings.Fields's contract at this program: the shelf's theorem over its table of numbers. -/
namespace Go.Proofs
open Go.Shelf
def Tryz.lays157_ren : Go.Shelf.Ren := ⟨fun | 157 => 205 | 229 => 212 | 199 => 213 | 261 => 218 | 311 => 233 | 312 => 234 | n => n, fun | 9 => 9 | 31 => 29 | 3 => 3 | 5 => 5 | 4 => 4 | 119 => 127 | 0 => 0 | 40 => 129 | 152 => 138 | 21 => 21 | 154 => 140 | 51 => 141 | 141 => 143 | 196 => 173 | 193 => 170 | 198 => 176 | 49 => 174 | 194 => 171 | 201 => 179 | 226 => 202 | 46 => 150 | 227 => 203 | n => n, fun | 0 => 1 | 6 => 4 | n => n⟩
theorem Tryz.lays157 : Go.Proofs.Lays.n157 Tryz.prog Tryz.lays157_ren := {
  mixed := by kernel_rfl
  f157 := Tryz.func205.trans (congrArg some (by kernel_rfl))
  f199 := Tryz.func213.trans (congrArg some (by kernel_rfl))
  f229 := Tryz.func212.trans (congrArg some (by kernel_rfl))
  f261 := Tryz.func218.trans (congrArg some (by kernel_rfl))
  f311 := Tryz.func233.trans (congrArg some (by kernel_rfl))
  f312 := Tryz.func234.trans (congrArg some (by kernel_rfl))
  t0 := Tryz.underlying0
  a0 := Tryz.isAgg0
  z0 := Tryz.sizeOf0
  v0 := Tryz.zeroValue0
  t3 := Tryz.underlying3
  a3 := Tryz.isAgg3
  z3 := Tryz.sizeOf3
  v3 := Tryz.zeroValue3
  t4 := Tryz.underlying4
  a4 := Tryz.isAgg4
  z4 := Tryz.sizeOf4
  v4 := Tryz.zeroValue4
  t5 := Tryz.underlying5
  a5 := Tryz.isAgg5
  z5 := Tryz.sizeOf5
  v5 := Tryz.zeroValue5
  t9 := Tryz.underlying9
  a9 := Tryz.isAgg9
  z9 := Tryz.sizeOf9
  v9 := Tryz.zeroValue9
  t21 := Tryz.underlying21
  a21 := Tryz.isAgg21
  z21 := Tryz.sizeOf21
  v21 := Tryz.zeroValue21
  t31 := Tryz.underlying29
  a31 := Tryz.isAgg29
  z31 := Tryz.sizeOf29
  v31 := Tryz.zeroValue29
  t40 := Tryz.underlying129
  a40 := Tryz.isAgg129
  z40 := Tryz.sizeOf129
  v40 := Tryz.zeroValue129
  t46 := Tryz.underlying150
  a46 := Tryz.isAgg150
  z46 := Tryz.sizeOf150
  v46 := Tryz.zeroValue150
  t49 := Tryz.underlying174
  a49 := Tryz.isAgg174
  z49 := Tryz.sizeOf174
  v49 := Tryz.zeroValue174
  t51 := Tryz.underlying141
  a51 := Tryz.isAgg141
  z51 := Tryz.sizeOf141
  v51 := Tryz.zeroValue141
  t119 := Tryz.underlying127
  a119 := Tryz.isAgg127
  z119 := Tryz.sizeOf127
  t141 := Tryz.underlying143
  a141 := Tryz.isAgg143
  z141 := Tryz.sizeOf143
  v141 := Tryz.zeroValue143
  t152 := Tryz.underlying138
  a152 := Tryz.isAgg138
  z152 := Tryz.sizeOf138
  v152 := Tryz.zeroValue138
  t154 := Tryz.underlying140
  a154 := Tryz.isAgg140
  z154 := Tryz.sizeOf140
  v154 := Tryz.zeroValue140
  t193 := Tryz.underlying170
  a193 := Tryz.isAgg170
  z193 := Tryz.sizeOf170
  v193 := Tryz.zeroValue170
  t194 := Tryz.underlying171
  a194 := Tryz.isAgg171
  z194 := Tryz.sizeOf171
  v194 := Tryz.zeroValue171
  t196 := Tryz.underlying173
  a196 := Tryz.isAgg173
  z196 := Tryz.sizeOf173
  v196 := Tryz.zeroValue173
  t198 := Tryz.underlying176
  a198 := Tryz.isAgg176
  z198 := Tryz.sizeOf176
  v198 := Tryz.zeroValue176
  t201 := Tryz.underlying179
  a201 := Tryz.isAgg179
  z201 := Tryz.sizeOf179
  v201 := Tryz.zeroValue179
  t226 := Tryz.underlying202
  a226 := Tryz.isAgg202
  z226 := Tryz.sizeOf202
  v226 := Tryz.zeroValue202
  t227 := Tryz.underlying203
  a227 := Tryz.isAgg203
  z227 := Tryz.sizeOf203
  v227 := Tryz.zeroValue203
  g0 := by kernel_rfl
  g6 := by kernel_rfl }
open Go.RowKit Go.Lib in
/-- strings.Fields, the table by 'Lib.TabIs' (as strings.TrimSpace's contract). 'hg': the table's number, by its name: at a dump 'by kernel_rfl'. (LAID: no walk: one application.) -/
theorem Tryz.strings_Fields (s : ByteArray) (w : World) (hs : s.size < 4294967281) (hascii : ∀ (j : Nat) b, s.data.toList[j]? = some b → b.toNat < 128) (htab : Lib.TabIs Tryz.prog w "strings.asciiSpace" .u8 Lib.asciiSpaceTab) :
    Calls Tryz.prog 205 #[.string s] w fun e w' =>
      e = .returned (.slice (some ⟨w.heap.size, 0, none⟩) (Lib.fields s.data.toList).length (Lib.fields s.data.toList).length) ∧ w' = w.alloc (.cells ((Lib.fields s.data.toList).map fun l => Value.string ⟨l.toArray⟩).toArray 9) := Any.strings_Fields Tryz.lays157 (by kernel_rfl) (by kernel_rfl) s w hs hascii htab
end Go.Proofs
namespace Go.Proofs.YtabfglmpnkgecaaGreatDoor.X
open Go.RowKit Go.Proofs.YtabfglmpnkgecaaGreatDoorW.PrintWords Go.Proofs.YtabfglmpnkgecaaGreatDoorW.PrintLast Go.Proofs.YtabfglmpnkgecaaGreatDoorW.PrintMore
theorem tab_below {B : Nat} {w W : World} (h : Lib.TabIs Tryz.prog w "strings.asciiSpace" .u8 Lib.asciiSpaceTab) (hb : Below B w W) (hB : ∀ g, Tryz.prog.globalNamed "strings.asciiSpace" = some g → g < B) : Lib.TabIs Tryz.prog W "strings.asciiSpace" .u8 Lib.asciiSpaceTab := by
  unfold Lib.TabIs World.var? at *
  cases hg : Tryz.prog.globalNamed "strings.asciiSpace" with
  | none => rw [hg] at h; cases h
  | some g =>
    rw [hg] at h
    simp only [Option.bind_some] at h ⊢
    rw [hb.block g (hB g hg)]
    exact h
end Go.Proofs.YtabfglmpnkgecaaGreatDoor.X

/- parseLoad at the text of lives. -/
namespace Go.Proofs.YtabfglmpnkgecaaGreatDoor.X
open Go.RowKit Go.Proofs.YtabfglmpnkgecaaGreatDoorW.PrintWords Go.Proofs.YtabfglmpnkgecaaGreatDoorW.PrintLast Go.Proofs.YtabfglmpnkgecaaGreatDoorW.PrintMore Go.Proofs.YtabfglmpnkgecaaGreatDoor.Q
attribute [local go_sem] run_store_float

def liveL : List UInt8 := [48, 46, 53, 32, 48, 46, 50, 53, 32, 48, 46, 55, 53, 32, 49, 47, 52, 57, 55, 32, 49, 49, 57, 52, 55, 10]
theorem live_fields : Lib.fields liveL = [[48, 46, 53], [48, 46, 50, 53], [48, 46, 55, 53], [49, 47, 52, 57, 55], [49, 49, 57, 52, 55]] := by decide
theorem live_ascii : ∀ (j : Nat) b, liveL[j]? = some b → b.toNat < 128 := by
  intro j b h
  have hm := List.mem_of_getElem? h
  have h2 : ∀ b ∈ liveL, b.toNat < 128 := by decide
  exact h2 b hm
/-- The blocks of the variables lie below B. -/
def VarsLow (x : Addr) (B : Nat) : Prop := 10 < B ∧ x.block < B
theorem vars_below {x : Addr} {n c B : Nat} {w W : World} (h : VarsAt x n c w) (hl : VarsLow x B) (hb : Below B w W) : VarsAt x n c W := by
  obtain ⟨h6, h7, h10, h1, h2⟩ := h
  obtain ⟨l10, lx⟩ := hl
  exact ⟨(World.cell?_of_block (hb.block 6 (by omega))).trans h6, (World.cell?_of_block (hb.block 7 (by omega))).trans h7, (World.cell?_of_block (hb.block 10 (by omega))).trans h10,
    (World.cell?_of_block (a := ⟨x.block, x.off + 1, none⟩) (hb.block x.block lx)).trans h1, (World.cell?_of_block (a := ⟨x.block, x.off + 2, none⟩) (hb.block x.block lx)).trans h2⟩
theorem make3 (W : World) : (Instr.makeSlice 119 (.int .i64 3) (.int .i64 3)).run Tryz.prog W = .ok (.slice (some ⟨W.heap.size, 0, none⟩) 3 3) (W.alloc (.cells #[.float .f64 0, .float .f64 0, .float .f64 0] 36)) := by
  have hf : (Tryz.prog.info? 36).map (fun i => (i.zero, i.size, i.bytes)) = some (some (.float .f64 0), 1, 8) := by kernel_rfl
  cases hq : Tryz.prog.info? 36 with
  | none => simp [hq] at hf
  | some i =>
    simp [hq] at hf
    obtain ⟨hz, hs, hb⟩ := hf
    have h := run_make (P := Tryz.prog) W 119 36 i (.float .f64 0) Tryz.underlying119 hq hz .i64 .i64 3 3 (by decide) (by decide) (by rw [hb]; decide) (by decide)
    rw [hs, show madeCells (Value.float .f64 0).cells (Int.toNat 3 * 1) = #[.float .f64 0, .float .f64 0, .float .f64 0] from by kernel_rfl] at h
    exact h
set_option maxHeartbeats 8000000 in
set_option maxRecDepth 100000 in
theorem parseLoad_calls (x : Addr) (n c : Nat) (hn : 3 ≤ n) (hnc : n ≤ 1000) (g cp : Nat) (w : World) (h : VarsAt x n c w) (hl : VarsLow x w.heap.size) (htab : Lib.TabIs Tryz.prog w "strings.asciiSpace" .u8 Lib.asciiSpaceTab) (hgl : ∀ g, Tryz.prog.globalNamed "strings.asciiSpace" = some g → g < w.heap.size)
    (hg : ∀ j (hj : j < liveL.length), w.cell? ⟨g, j, none⟩ = some (.int .u8 (liveL[j].toNat : Int))) (hgb : g < w.heap.size) :
    Calls Tryz.prog 199 #[.slice (some ⟨g, 0, none⟩) 26 cp] w fun e w' => ∃ b, e = .returned (.tuple #[.pointer (some ⟨b, 0, none⟩), .nilIface]) ∧ w'.heap[b]? = some (.cells #[.float .f64 4602678819172646912, .float .f64 4598175219545276416, .float .f64 4604930618986332160] 93 (0, 0)) ∧ Below w.heap.size w w' := by
  have h119 := Tryz.underlying119
  have h29 := Tryz.underlying29
  have H := Aside0.mk h
  have HL := Aside0.mk hl
  have HT := Aside0.mk htab
  have HGL := Aside0.mk hgl
  have HG := Aside0.mk hg
  have HGB := Aside0.mk hgb
  clear h hl htab hgl hg hgb
  have hmk := make3
  have hcv : ∀ o : Obj, (convert 82 9 (.slice (some ⟨g, 0, none⟩) 26 cp)).run Tryz.prog (w.alloc o) = .ok (.string ⟨liveL.toArray⟩) (w.alloc o) := fun o =>
    run_convert_bytes_back (P := Tryz.prog) (w.alloc o) 82 9 5 ⟨g, 0, none⟩ cp liveL Tryz.underlying82 Tryz.underlying5 Tryz.underlying9 (fun j hj => by rw [add_plain]; exact (World.cell?_of_block (Below.heap_alloc w o g HGB.out)).trans (HG.out j hj))
  go_enter Tryz.func199, Tryz.ntmps199
  go_wp2_with fail
  refine (Tryz.strings_Fields ⟨liveL.toArray⟩ _ (by decide) live_ascii (tab_below HT.out (below_alloc (Below.refl w.heap.size w) _) HGL.out)).mono ?_
  rintro e w1 ⟨rfl, rfl⟩
  rw [ba_list, live_fields, World.size_alloc]
  clear hmk hcv HG HT
  have hsz : (w.alloc (.cells #[.float .f64 0, .float .f64 0, .float .f64 0] 36)).heap.size = w.heap.size + 1 := World.size_alloc _ _
  simp only [List.map_cons, List.map_nil, List.length_cons, List.length_nil]
  go_wp2_with fail
  refine wp_loop_rounds 4 ?_
  rw [rounds_succ]
  go_wp2_with (go_at_call 53; refine (pf05 x n c hn hnc _ (vars_below H.out HL.out (below_alloc (below_alloc (Below.refl _ _) _) _))).mono ?_; rintro e w' ⟨rfl, rfl⟩)
  rw [rounds_succ]
  go_wp2_with (go_at_call 53; refine (pf025 x n c hn hnc _ (vars_below H.out HL.out (below_alloc (below_alloc (Below.refl _ _) _) _))).mono ?_; rintro e w' ⟨rfl, rfl⟩)
  rw [rounds_succ]
  go_wp2_with (go_at_call 53; refine (pf075 x n c hn hnc _ (vars_below H.out HL.out (below_alloc (below_alloc (Below.refl _ _) _) _))).mono ?_; rintro e w' ⟨rfl, rfl⟩)
  rw [rounds_succ]
  go_wp2_with fail
  have hB := below_alloc (below_alloc (Below.refl w.heap.size w) (.cells #[.float .f64 4602678819172646912, .float .f64 4598175219545276416, .float .f64 4604930618986332160] 36)) (.cells #[.string ⟨#[48, 46, 53]⟩, .string ⟨#[48, 46, 50, 53]⟩, .string ⟨#[48, 46, 55, 53]⟩, .string ⟨#[49, 47, 52, 57, 55]⟩, .string ⟨#[49, 49, 57, 52, 55]⟩] 9)
  have hF := blk_alloc (blk_new w (.cells #[.float .f64 4602678819172646912, .float .f64 4598175219545276416, .float .f64 4604930618986332160] 36)) (.cells #[.string ⟨#[48, 46, 53]⟩, .string ⟨#[48, 46, 50, 53]⟩, .string ⟨#[48, 46, 55, 53]⟩, .string ⟨#[49, 47, 52, 57, 55]⟩, .string ⟨#[49, 49, 57, 52, 55]⟩] 9)
  generalize ((w.alloc (.cells #[.float .f64 4602678819172646912, .float .f64 4598175219545276416, .float .f64 4604930618986332160] 36)).alloc (.cells #[.string ⟨#[48, 46, 53]⟩, .string ⟨#[48, 46, 50, 53]⟩, .string ⟨#[48, 46, 55, 53]⟩, .string ⟨#[49, 47, 52, 57, 55]⟩, .string ⟨#[49, 49, 57, 52, 55]⟩] 9)) = w2 at *
  have HF := Aside0.mk (And.intro hF hB)
  have c0 : w2.cell? ⟨w.heap.size, 0, none⟩ = some (.float .f64 4602678819172646912) := (blk_cell hF 0).trans rfl
  have c1 : w2.cell? ⟨w.heap.size, 1, none⟩ = some (.float .f64 4598175219545276416) := (blk_cell hF 1).trans rfl
  have c2 : w2.cell? ⟨w.heap.size, 2, none⟩ = some (.float .f64 4604930618986332160) := (blk_cell hF 2).trans rfl
  have hu254 := Tryz.underlying93
  clear hF hB hsz
  go_still_tail 10, (by kernel_rfl)
  change wpList _ _ _ _ _ w2.drew
  have HB2 := Aside0.mk (below_drew HF.out.2)
  generalize w2.drew = w3 at *
  go_wp2_with fail
  go_ret2
  exact ⟨_, rfl, blk_new _ _, below_alloc HB2.out _⟩
end Go.Proofs.YtabfglmpnkgecaaGreatDoor.X

/- The door Loadavg at the text of lives. -/
namespace Go.Proofs.YtabfglmpnkgecaaGreatDoor.X
open Go.RowKit Go.Proofs.YtabfglmpnkgecaaGreatDoorW.PrintWords Go.Proofs.YtabfglmpnkgecaaGreatDoorW.PrintLast Go.Proofs.YtabfglmpnkgecaaGreatDoorW.PrintMore Go.Proofs.YtabfglmpnkgecaaGreatDoor.Q
attribute [local go_sem] run_store_float

/-- What the world must hold for lives. -/
structure LiveAt (x : Addr) (n c : Nat) (w : World) : Prop where
  n3 : 3 ≤ n
  n1000 : n ≤ 1000
  vars : VarsAt x n c w
  low : VarsLow x w.heap.size
  tab : Lib.TabIs Tryz.prog w "strings.asciiSpace" .u8 Lib.asciiSpaceTab
  gl : ∀ g, Tryz.prog.globalNamed "strings.asciiSpace" = some g → g < w.heap.size
theorem LiveAt.below {x : Addr} {n c B : Nat} {w W : World} (h : LiveAt x n c w) (hb : Below B w W) (hB : w.heap.size ≤ B) : LiveAt x n c W :=
  have hb' : Below w.heap.size w W := below_low (Below.refl _ _) hb hB
  ⟨h.n3, h.n1000, vars_below h.vars h.low hb', ⟨Nat.lt_of_lt_of_le h.low.1 hb.size, Nat.lt_of_lt_of_le h.low.2 hb.size⟩, tab_below h.tab hb' h.gl, fun g hg => Nat.lt_of_lt_of_le (h.gl g hg) hb.size⟩
def liveT : ByteArray := ⟨liveL.toArray⟩
set_option maxHeartbeats 8000000 in
set_option maxRecDepth 100000 in
theorem loadAvg_calls (x : Addr) (n c : Nat) (w : World) (h : LiveAt x n c w) :
    Calls Tryz.prog 41 #[.agg #[.string liveT]] w fun e w' => ∃ b, e = .returned (.tuple #[.pointer (some ⟨b, 0, none⟩), .nilIface]) ∧ w'.heap[b]? = some (.cells #[.float .f64 4602678819172646912, .float .f64 4598175219545276416, .float .f64 4604930618986332160] 93 (0, 0)) ∧ Below w.heap.size w w' := by
  have H := Aside0.mk h
  clear h
  have hu250 := Tryz.underlying62
  have hsz : liveT.size = 26 := rfl
  have hcv : ∀ W : World, (convert 9 82 (.string liveT)).run Tryz.prog W = .ok (.slice (some ⟨W.heap.size, 0, none⟩) 26 (grownCap W 26 0 5)) (Lib.bytesWorld W 5 liveT) := fun W =>
    Lib.run_convert_string_bytes (P := Tryz.prog) W 9 82 5 liveT Tryz.underlying9 Tryz.underlying82 Tryz.underlying5
  have HSZ := Aside0.mk hsz
  have HB : Aside0 (∀ (W : World) (j : Nat) (hj : j < liveL.length), (Lib.bytesWorld W 5 liveT).cell? ⟨W.heap.size, j, none⟩ = some (.int .u8 (liveL[j].toNat : Int))) := ⟨fun W j hj => by
    rw [Lib.bytesWorld_cell W 5 liveT j hj]
    show some (Value.int .u8 ((liveL.getD j 0).toNat : Int)) = _
    rw [List.getD_eq_getElem?_getD, List.getElem?_eq_getElem hj]; rfl⟩
  generalize liveT = T at *
  go_enter Tryz.func41, Tryz.ntmps41
  go_wp2_with (first | (go_at_call 198; go_in) | (go_at_call 36; go_in))
  have hs2 : ((w.alloc (.cells #[.string T] 62)).alloc (.cells #[.string ⟨#[108, 111, 97, 100, 97, 118, 103]⟩] 9)).heap.size = w.heap.size + 1 + 1 := by rw [World.size_alloc, World.size_alloc]
  have hb2 := below_alloc (below_alloc (Below.refl w.heap.size w) (.cells #[.string T] 62)) (.cells #[.string ⟨#[108, 111, 97, 100, 97, 118, 103]⟩] 9)
  rw [← hs2]
  generalize ((w.alloc (.cells #[.string T] 62)).alloc (.cells #[.string ⟨#[108, 111, 97, 100, 97, 118, 103]⟩] 9)) = w2 at *
  have hb3 := Lib.bytesWorld_below w2 5 T
  have hsz3 := Lib.bytesWorld_size w2 5 T
  have HB2 := Aside0.mk (HB.out w2)
  have HBel := Aside0.mk (below_step hb2 hb3)
  clear HB hcv hb2 hb3
  generalize Lib.bytesWorld w2 5 T = w3 at *
  have HL := H.out.below HBel.out (Nat.le_refl _)
  refine (parseLoad_calls x n c HL.n3 HL.n1000 w2.heap.size _ w3 HL.vars HL.low HL.tab HL.gl HB2.out (by omega)).mono ?_
  rintro e w4 ⟨b, rfl, h1, h2⟩
  have HF := Aside0.mk (And.intro h1 (below_step HBel.out h2))
  clear h1 h2 HL HB2 HBel hsz3 hs2
  generalize grownCap w2 26 0 5 = cp at *
  generalize w2.heap.size = gb at *
  go_wp2_with fail
  go_ret2
  exact ⟨b, rfl, HF.out⟩
end Go.Proofs.YtabfglmpnkgecaaGreatDoor.X
