/- ParseStats by contract: what it makes of a text that was written from rows. -/
import Derived.Test.YtfcalbjebomgcaaGreatDoorM18
import Derived.Deep.LoopGhost
set_option linter.unusedVariables false
set_option linter.unusedSimpArgs false
namespace Go.Proofs.YtfcalbjebomgcaaGreatDoor.X
open Go.RowKit Go.Proofs.YtfcalbjebomgcaaGreatDoorW.PrintWords Go.Proofs.YtfcalbjebomgcaaGreatDoorW.PrintLast Go.Proofs.YtfcalbjebomgcaaGreatDoorW.PrintMore Go.Proofs.YtfcalbjebomgcaaGreatDoor.Q

theorem lineB_len (r : S31) (h : fineRow r = true) (hw : ∀ n ∈ r.f1, 0 ≤ n ∧ n < 18446744073709551616) : (lineB r).length ≤ 400 := by
  have h1 := lineL_len r h hw
  rw [lineL_eq, List.length_append] at h1
  omega
theorem fields_cells (r : S31) (h : fineRow r = true) : ((Lib.fields (lineB r)).map fun l => Value.string ⟨l.toArray⟩).toArray = fieldCells r.f0.data.toList r.f1 := by
  rw [fields_fine r h, fieldCells, List.map_cons, List.map_map]
  rfl
set_option maxRecDepth 100000 in
set_option maxHeartbeats 2000000 in
theorem row_wp (dgc dx1 dx2 dd1 dd2 d30 d95 : Code) (r : S31) (hf : fineRow r = true) (hw : ∀ n ∈ r.f1, 0 ≤ n ∧ n < 18446744073709551616) (b4 b5 B : Nat) (M : Nat → List Int) (hM : LensOk M) (nm : ByteArray) (T line : ByteArray) (R : List UInt8) (hT : T.data.toList = lineL r ++ R) (hR : R.length ≤ 1000000) (a : Act) (W : World) (Q : Exit → Act → World → Prop)
    (hsz : a.tmps.size = 364) (h4 : a.eval (.tmp 4) = .pointer (some ⟨b4, 0, none⟩)) (h5 : a.eval (.tmp 5) = .pointer (some ⟨b5, 0, none⟩)) (hb4 : W.heap[b4]? = some (.cells (statArgs nm M) 123 (0, 0))) (hL : LinesAt b5 T line W) (hbb : b4 < b5)
    (htab : Lib.TabIs Tryz.prog W "strings.asciiSpace" .u8 Lib.asciiSpaceTab) (hgl : ∀ g, Tryz.prog.globalNamed "strings.asciiSpace" = some g → g < B) (hB : B ≤ b4)
    (k : ∀ (a' : Act) (W' : World), a'.tmps.size = 364 → a'.defers = a.defers → a'.eval (.tmp 4) = a.eval (.tmp 4) → a'.eval (.tmp 5) = a.eval (.tmp 5) → W'.heap[b4]? = some (.cells (statArgs nm (upd M (gi r.f0) r.f1)) 123 (0, 0)) → LinesAt b5 ⟨R.toArray⟩ ⟨(lineB r).toArray⟩ W' → Below b4 W W' → Q .normal a' W') :
    (roundCode dgc dx1 dx2 dd1 dd2 d30 d95).wp Tryz.prog Q a W := by
  obtain ⟨i, hi, hgi, hgn, hlen, hn0, hn15, hgc, hroute⟩ := row_group r hf
  have hB400 := lineB_len r hf hw
  unfold roundCode
  refine wp_seq (wp_seq (wp_region_lit ?_))
  unfold reg3
  refine Kd.event_run rfl (o_move _ _ _ _ _ _ _ _ h5) ?_
  refine goesL_ (some 19) rfl rfl Tryz.func38 (by kernel_rfl) (by kernel_rfl) #[.pointer (some ⟨b5, 0, none⟩)] rfl ?_ ?_
  · simp only [mkO, List.map_toArray, List.map_cons, List.map_nil]
    rw [ev_same (by omega)]
  refine (scan_line b5 T line (lineB r) R (by rw [hT, lineL_eq]; simp) (by omega) hR (fun c hc => (lineB_ascii r hf c hc).2) W hL).mono ?_
  rintro e W1 ⟨rfl, hL1, hB1⟩
  refine ⟨_, rfl, ?_⟩
  refine wpList_nil ?_
  refine wp_cond_true (by simp only [mkO]; rw [ev_same (by simp only [size_put]; omega)]) (wp_skip ?_)
  refine wp_block ?_
  have hb41 : W1.heap[b4]? = some (.cells (statArgs nm M) 123 (0, 0)) := (hB1.block b4 hbb).trans hb4
  have htab1 := tab_below htab hB1 (fun g hg => by have := hgl g hg; omega)
  have hlt5 := blk_lt hL1
  refine wp_seq (wp_region_lit ?_)
  unfold reg4
  refine Kd.event_run rfl (o_move _ _ _ _ _ _ (.pointer (some ⟨b5, 0, none⟩)) _ (by simp only [mkO]; rw [ev_other (by omega), ev_other (by omega)]; exact h5)) ?_
  refine goesL_ (some 21) rfl rfl Tryz.func40 (by kernel_rfl) (by kernel_rfl) #[.pointer (some ⟨b5, 0, none⟩)] rfl ?_ ?_
  · simp only [mkO, List.map_toArray, List.map_cons, List.map_nil]
    rw [ev_same (by simp only [size_put]; omega)]
  refine (bytes_calls b5 _ _ W1 hL1).mono ?_
  rintro e W2 ⟨c, rfl, rfl⟩
  refine ⟨_, rfl, ?_⟩
  have hB2 := Lib.bytesWorld_below W1 5 (⟨(lineB r).toArray⟩ : ByteArray)
  have hbytes := Lib.bytesWorld_cell W1 5 (⟨(lineB r).toArray⟩ : ByteArray)
  refine Kd.event_run rfl (o_conv9 _ _ _ _ _ W1.heap.size c (lineB r) _ (by simp only [mkO]; rw [ev_same (by simp only [size_put]; omega)]; rw [ba_size, ba_list]) (fun j hj => ?_)) ?_
  · rw [hbytes j (by rw [ba_size, ba_list]; exact hj), ba_list, List.getD_eq_getElem?_getD, List.getElem?_eq_getElem hj]
    rfl
  have htab2 := tab_below htab1 hB2 (fun g hg => by have := hgl g hg; omega)
  have hb42 := blk_below hb41 hB2
  have hL2 : LinesAt b5 ⟨R.toArray⟩ ⟨(lineB r).toArray⟩ (Lib.bytesWorld W1 5 ⟨(lineB r).toArray⟩) := blk_below hL1 hB2
  have hbs : Below b4 W (Lib.bytesWorld W1 5 ⟨(lineB r).toArray⟩) := below_low (below_low (Below.refl b4 W) hB1 (by omega)) hB2 (by have := hB1.size; have := blk_lt hb4; omega)
  clear hB2 hbytes hL1 hb41 htab1 htab
  generalize Lib.bytesWorld W1 5 ⟨(lineB r).toArray⟩ = W2 at *
  refine goesL_ (some 23) rfl rfl Tryz.func39 (by kernel_rfl) (by kernel_rfl) #[.string ⟨(lineB r).toArray⟩] rfl ?_ ?_
  · simp only [mkO, List.map_toArray, List.map_cons, List.map_nil]
    rw [ev_same (by simp only [size_put]; omega)]
  refine (Tryz.strings_Fields ⟨(lineB r).toArray⟩ W2 (by rw [ba_size, ba_list]; omega) (fun j b hj => ?_) htab2).mono ?_
  · exact (lineB_ascii r hf b (List.mem_of_getElem? hj)).1
  rintro e W3 ⟨rfl, rfl⟩
  refine ⟨_, rfl, ?_⟩
  have hflen : (Lib.fields (lineB r)).length = r.f1.length + 1 := by rw [fields_fine r hf]; simp
  have hcells := fields_cells r hf
  rw [ba_list, hcells, hflen]
  refine Kd.event_run rfl (o_assign _ _ _ _ _ _ (.slice (some ⟨W2.heap.size, 0, none⟩) (r.f1.length + 1) (r.f1.length + 1)) _ (by simp only [mkO]; rw [ev_same (by simp only [size_put]; omega)])) ?_
  refine wpList_nil ?_
  have hg := blk_new W2 (.cells (fieldCells r.f0.data.toList r.f1) 9 (0, 0))
  have hb43 := blk_alloc hb42 (.cells (fieldCells r.f0.data.toList r.f1) 9 (0, 0))
  have hL3 : LinesAt b5 ⟨R.toArray⟩ ⟨(lineB r).toArray⟩ (W2.alloc (.cells (fieldCells r.f0.data.toList r.f1) 9 (0, 0))) := blk_alloc hL2 _
  have hsz2 := World.size_alloc W2 (.cells (fieldCells r.f0.data.toList r.f1) 9 (0, 0))
  have hlt4 := blk_lt hb4
  have hbs3 : Below b4 W (W2.alloc (.cells (fieldCells r.f0.data.toList r.f1) 9 (0, 0))) := below_low hbs (below_alloc (Below.refl W2.heap.size W2) _) (by have := hbs.size; omega)
  have hlt52 := blk_lt hL2
  clear hL2 hb42 htab2 hbs
  generalize W2.alloc (.cells (fieldCells r.f0.data.toList r.f1) 9 (0, 0)) = W3 at *
  generalize W2.heap.size = g at *
  refine wp_seq (wp_seq (wp_region_lit ?_))
  unfold reg5
  refine Kd.event_run rfl (o_move _ _ _ _ _ _ (.slice (some ⟨g, 0, none⟩) (r.f1.length + 1) (r.f1.length + 1)) _ (by simp only [mkO]; rw [ev_same (by simp only [size_put]; omega)])) ?_
  refine Kd.event_run rfl (o_len _ _ _ _ _ _ 9 (some ⟨g, 0, none⟩) (r.f1.length + 1) (r.f1.length + 1) _ Tryz.underlying29 (by simp only [mkO]; rw [ev_same (by simp only [size_put]; omega)])) ?_
  refine Kd.event_run rfl (o_lt2 _ _ _ _ _ (r.f1.length + 1) _ (by simp only [mkO]; rw [ev_same (by simp only [size_put]; omega)]) (by omega)) ?_
  refine wpList_nil ?_
  refine wp_cond_false (by simp only [mkO]; rw [ev_same (by simp only [size_put]; omega)]) (wp_skip ?_)
  refine wp_seq (wp_region_lit ?_)
  unfold reg6
  refine Kd.event_run rfl (o_move _ _ _ _ _ _ (.slice (some ⟨g, 0, none⟩) (r.f1.length + 1) (r.f1.length + 1)) _ (by simp only [mkO]; rw [ev_other (by omega), ev_other (by omega), ev_other (by omega), ev_same (by simp only [size_put]; omega)])) ?_
  refine Kd.event_run rfl (o_index0 _ _ _ _ _ g (r.f1.length + 1) _ (by simp only [mkO]; rw [ev_same (by simp only [size_put]; omega)]) (by omega) (by omega)) ?_
  refine Kd.event_run rfl (o_load9 _ g _ _ _ _ 0 (.string r.f0) _ (by simp only [mkO]; rw [ev_same (by simp only [size_put]; omega)]) ((blk_cell hg 0).trans rfl)) ?_
  refine Kd.event_run rfl (o_assign _ _ _ _ _ _ (.string r.f0) _ (by simp only [mkO]; rw [ev_same (by simp only [size_put]; omega)])) ?_
  refine wpList_nil ?_
  refine label_wp dgc dx1 dx2 dd1 dd2 d30 d95 r hf hw g b4 M hM nm _ W3 _ (by simp only [mkO, size_put]; exact hsz) ?_ ?_ ?_ hg hb43 ?_
  · simp only [mkO]; repeat rw [ev_other (by omega)]
    exact h4
  · simp only [mkO]; rw [ev_same (by simp only [size_put]; omega)]
  · simp only [mkO]; rw [ev_other (by omega), ev_other (by omega), ev_other (by omega), ev_other (by omega), ev_other (by omega), ev_other (by omega), ev_other (by omega), ev_same (by simp only [size_put]; omega)]
  intro a' W4 e he q1 q2 q3 q4
  have hfin : Q .normal a' (W4.setRow b4 (statArgs nm (upd M (gi r.f0) r.f1))) := by
    refine k a' _ q1 (by rw [q2]; simp only [mkO, defers_put]) ?_ ?_ (setRow_heap _ _ _ _ _ _ (blk_below hb43 q4)) ?_ ?_
    · rw [q3 4 (by omega)]; simp only [mkO]; repeat rw [ev_other (by omega)]
    · rw [q3 5 (by omega)]; simp only [mkO]; repeat rw [ev_other (by omega)]
    · exact (setRow_other _ _ _ _ (by omega)).trans (blk_below hL3 q4)
    · exact below_setRow (below_low hbs3 q4 (by omega)) (Nat.le_refl _) _
  rcases he with rfl | rfl
  · exact hfin
  · exact hfin
end Go.Proofs.YtfcalbjebomgcaaGreatDoor.X

/- ParseStats by contract: what it makes of a text that was written from rows. -/
namespace Go.Proofs.YtfcalbjebomgcaaGreatDoor.X
open Go.RowKit Go.Proofs.YtfcalbjebomgcaaGreatDoorW.PrintWords Go.Proofs.YtfcalbjebomgcaaGreatDoorW.PrintLast Go.Proofs.YtfcalbjebomgcaaGreatDoorW.PrintMore Go.Proofs.YtfcalbjebomgcaaGreatDoor.Q

/-- All counters zero. -/
def M0 (i : Nat) : List Int := List.replicate (statLens.getD i 0) 0
theorem M0_ok : LensOk M0 := fun i _ => by simp [M0]
/-- The counters of rows. -/
def Mof (l : List S31) : Nat → List Int := l.foldl (fun M r => upd M (gi r.f0) r.f1) M0
theorem Mof_snoc (l : List S31) (r : S31) : Mof (l ++ [r]) = upd (Mof l) (gi r.f0) r.f1 := by simp [Mof]
theorem Mof_ok (l : List S31) (hf : ∀ r ∈ l, fineRow r = true) : LensOk (Mof l) := by
  have h : ∀ (l : List S31) (M : Nat → List Int), LensOk M → (∀ r ∈ l, fineRow r = true) → LensOk (l.foldl (fun M r => upd M (gi r.f0) r.f1) M) := by
    intro l
    induction l with
    | nil => intro M hM _; exact hM
    | cons r l ih =>
      intro M hM hf
      obtain ⟨i, hi, hgi, _, hlen, _⟩ := row_group r (hf r List.mem_cons_self)
      refine ih _ (lens_upd M hM _ _ ?_) (fun x hx => hf x (List.mem_cons_of_mem _ hx))
      rw [hgi]; exact hlen
  exact h l M0 M0_ok hf
theorem zero123 : (Tryz.prog.info? 123).bind (·.zero) = some (.agg (statArgs ⟨#[]⟩ M0)) := by kernel_rfl
theorem o_allocZ (a : Act) (W : World) (pos : String) (s : Nat) (T : TypeId) (zs : Array Value) (af : List Edge) (hi : (Tryz.prog.info? T).bind (·.zero) = some (.agg zs)) :
  (execOp a.eval (mkO pos (some s) (.alloc T) 0 af)).run Tryz.prog W = .ok (.value (.pointer (some ⟨W.heap.size, 0, none⟩))) (W.alloc (.cells zs T)) := by
  have hz : (zeroValue T).run Tryz.prog W = .ok (.agg zs) W := by
    cases hq : Tryz.prog.info? T with
    | none => simp [hq] at hi
    | some i =>
      have h1 : i.zero = some (.agg zs) := by simpa [hq] using hi
      simp [zeroValue, typeInfo, hq, h1, Sem.run_bind]
  simp only [execOp, mkO]
  go_simp
theorem textL_cons (r : S31) (l : List S31) : textL (r :: l) = lineL r ++ textL l := by simp [textL]
set_option maxRecDepth 100000 in
set_option maxHeartbeats 2000000 in
theorem parseStats_calls (l : List S31) (hf : ∀ r ∈ l, fineRow r = true) (hw : Wf31 l) (hl : l.length ≤ 1000) (w : World) (htab : Lib.TabIs Tryz.prog w "strings.asciiSpace" .u8 Lib.asciiSpaceTab) :
    Calls Tryz.prog 21 #[.string ⟨(textL l).toArray⟩] w fun e w' => e = .returned (.tuple #[.pointer (some ⟨w.heap.size, 0, none⟩), .nilIface]) ∧ w'.heap[w.heap.size]? = some (.cells (statArgs ⟨#[]⟩ (Mof l)) 123 (0, 0)) ∧ Below w.heap.size w w' := by
  obtain ⟨dgc, dx1, dx2, dd1, dd2, d30, d95, hb⟩ := body21r
  have hgl : ∀ g, Tryz.prog.globalNamed "strings.asciiSpace" = some g → g < w.heap.size := by
    intro g hg
    unfold Lib.TabIs World.var? at htab
    rw [hg] at htab
    simp only [Option.bind_some] at htab
    rcases Nat.lt_or_ge g w.heap.size with h | h
    · exact h
    · simp [Array.getElem?_eq_none h] at htab
  refine calls_of_wp Tryz.func21 hb ?_
  obtain ⟨a, ha⟩ : ∃ a : Act, a = { tmps := #[.string ⟨(textL l).toArray⟩] ++ Array.replicate (Tryz.f21.ntmps - (#[.string ⟨(textL l).toArray⟩] : Array Value).size) undef, defers := [] } := ⟨_, rfl⟩
  rw [← ha]
  have e0 : a.eval (.tmp 0) = .string ⟨(textL l).toArray⟩ := by rw [ha]; simp only [Act.eval, Array.getD_eq_getD_getElem?]; rw [Array.getElem?_append_left (by simp)]; rfl
  have hd : a.defers = [] := by rw [ha]
  have hsz : a.tmps.size = 364 := by
    rw [ha]
    have : Tryz.f21.ntmps = 364 := Tryz.ntmps21
    simp [this]
  clear ha
  refine wp_seq (wp_region_lit ?_)
  unfold reg0
  refine Kd.event_run rfl (o_nil _ _ _ _ _ _ _) ?_
  refine Kd.event_run rfl (o_nil _ _ _ _ _ _ _) ?_
  refine wpList_nil ?_
  refine wp_seq (wp_region_lit ?_)
  unfold reg1
  refine Kd.event_run rfl (o_allocZ _ _ _ _ _ _ _ zero123) ?_
  refine wpList_nil ?_
  have hb4 := blk_new w (.cells (statArgs ⟨#[]⟩ M0) 123 (0, 0))
  have hB := below_alloc (Below.refl w.heap.size w) (.cells (statArgs ⟨#[]⟩ M0) 123 (0, 0))
  have hs1 := World.size_alloc w (.cells (statArgs ⟨#[]⟩ M0) 123 (0, 0))
  generalize w.alloc (.cells (statArgs ⟨#[]⟩ M0) 123 (0, 0)) = W1 at *
  refine wp_seq (wp_region_lit ?_)
  unfold reg2
  refine Kd.event_run rfl (o_move _ _ _ _ _ _ (.string ⟨(textL l).toArray⟩) _ (by simp only [mkO]; rw [ev_other (by omega), ev_other (by omega), ev_other (by omega)]; exact e0)) ?_
  refine goesL_ (some 17) rfl rfl Tryz.func37 (by kernel_rfl) (by kernel_rfl) #[.string ⟨(textL l).toArray⟩] rfl ?_ ?_
  · simp only [mkO, List.map_toArray, List.map_cons, List.map_nil]
    rw [ev_same (by simp only [size_put]; omega)]
  refine (newLines_calls _ W1).mono ?_
  rintro e W2 ⟨rfl, hL, hB2⟩
  refine ⟨_, rfl, ?_⟩
  refine Kd.event_run rfl (o_assign _ _ _ _ _ _ (.pointer (some ⟨W1.heap.size, 0, none⟩)) _ (by simp only [mkO]; rw [ev_same (by simp only [size_put]; omega)])) ?_
  refine wpList_nil ?_
  have hb42 := blk_below hb4 hB2
  have hB3 := below_step hB hB2
  clear hb4 hB hB2
  refine wp_seq (wp_block ?_)
  refine wp_loop_ghost (fun n a W => ∃ (d t : List S31) (line : ByteArray), l = d ++ t ∧ t.length = n ∧ a.tmps.size = 364 ∧ a.defers = [] ∧ a.eval (.tmp 4) = .pointer (some ⟨w.heap.size, 0, none⟩) ∧ a.eval (.tmp 5) = .pointer (some ⟨W1.heap.size, 0, none⟩) ∧
    LinesAt W1.heap.size ⟨(textL t).toArray⟩ line W ∧ W.heap[w.heap.size]? = some (.cells (statArgs ⟨#[]⟩ (Mof d)) 123 (0, 0)) ∧ Below w.heap.size w W) l.length ?_ ?_
  · refine ⟨[], l, _, rfl, rfl, ?_, ?_, ?_, ?_, hL, hb42, hB3⟩
    · simp only [mkO, size_put]; exact hsz
    · simp only [mkO, defers_put]; exact hd
    · simp only [mkO]; rw [ev_other (by omega), ev_other (by omega), ev_other (by omega), ev_same (by simp only [size_put]; omega)]
    · simp only [mkO]; rw [ev_same (by simp only [size_put]; omega)]
  clear hL hb42 hB3 W2 e0 hd hsz a
  rintro n a W ⟨d, t, line, rfl, rfl, hsz, hd, h4, h5, hL, hb4, hBl⟩
  cases t with
  | nil =>
    unfold roundCode
    refine wp_seq (wp_seq (wp_region_lit ?_))
    unfold reg3
    refine Kd.event_run rfl (o_move _ _ _ _ _ _ _ _ h5) ?_
    refine goesL_ (some 19) rfl rfl Tryz.func38 (by kernel_rfl) (by kernel_rfl) #[.pointer (some ⟨W1.heap.size, 0, none⟩)] rfl ?_ ?_
    · simp only [mkO, List.map_toArray, List.map_cons, List.map_nil]
      rw [ev_same (by omega)]
    refine (scan_end _ line W hL).mono ?_
    rintro e W3 ⟨rfl, hL3, hB3⟩
    refine ⟨_, rfl, ?_⟩
    refine wpList_nil ?_
    refine wp_cond_false (by simp only [mkO]; rw [ev_same (by simp only [size_put]; omega)]) (wp_exit ?_)
    have hb43 := (hB3.block w.heap.size (by omega)).trans hb4
    have hB4 := below_low hBl hB3 (by omega)
    refine wp_seq (wp_region_lit ?_)
    unfold reg96
    refine Kd.event_run rfl (o_move _ _ _ _ _ _ (.pointer (some ⟨W1.heap.size, 0, none⟩)) _ (by simp only [mkO]; rw [ev_other (by omega), ev_other (by omega)]; exact h5)) ?_
    refine goesL_ (some 363) rfl rfl Tryz.func76 (by kernel_rfl) (by kernel_rfl) #[.pointer (some ⟨W1.heap.size, 0, none⟩)] rfl ?_ ?_
    · simp only [mkO, List.map_toArray, List.map_cons, List.map_nil]
      rw [ev_same (by simp only [size_put]; omega)]
    refine (err_calls _ _ _ W3 hL3).mono ?_
    rintro e W4 ⟨rfl, rfl⟩
    refine ⟨_, rfl, ?_⟩
    refine Kd.event_run rfl (o_assign _ _ _ _ _ _ (.pointer (some ⟨w.heap.size, 0, none⟩)) _ (by simp only [mkO]; rw [ev_other (by omega), ev_other (by omega), ev_other (by omega), ev_other (by omega)]; exact h4)) ?_
    refine Kd.event_run rfl (o_assign _ _ _ _ _ _ .nilIface _ (by simp only [mkO]; rw [ev_other (by omega), ev_same (by simp only [size_put]; omega)])) ?_
    refine wpList_nil ?_
    refine wp_ret ?_
    rw [List.append_nil]
    have fin : ∀ act : Act, act.eval (.tmp 2) = .pointer (some ⟨w.heap.size, 0, none⟩) → act.eval (.tmp 3) = .nilIface → act.defers = [] →
        bodyPost Tryz.prog Tryz.f21 (fun e w' => e = .returned (.tuple #[.pointer (some ⟨w.heap.size, 0, none⟩), .nilIface]) ∧ w'.heap[w.heap.size]? = some (.cells (statArgs ⟨#[]⟩ (Mof d)) 123 (0, 0)) ∧ Below w.heap.size w w') .ret act W4 := by
      intro act q2 q3 qd
      have q2' : act.tmps.getD 2 undef = .pointer (some ⟨w.heap.size, 0, none⟩) := by simpa [Act.eval] using q2
      have q3' : act.tmps.getD 3 undef = .nilIface := by simpa [Act.eval] using q3
      exact bodyPost_ret (results_tmp2 rfl _ _ _) qd ⟨by rw [q2', q3'], hb43, hB4⟩
    refine fin _ ?_ ?_ ?_
    · simp only [mkO]; rw [ev_other (by omega), ev_same (by simp only [size_put]; omega)]
    · simp only [mkO]; rw [ev_same (by simp only [size_put]; omega)]
    · simp only [mkO, defers_put]; exact hd
  | cons r t =>
    have hfr := hf r (by simp)
    have hwr := hw r (by simp)
    have htl : (textL t).length ≤ 1000000 := by
      have h1 := textL_len t (fun x hx => hf x (by simp [hx])) (fun x hx => hw x (by simp [hx]))
      simp at hl
      omega
    refine row_wp dgc dx1 dx2 dd1 dd2 d30 d95 r hfr hwr w.heap.size W1.heap.size w.heap.size (Mof d) (Mof_ok d (fun x hx => hf x (by simp [hx]))) ⟨#[]⟩ _ line (textL t) (by rw [textL_cons]) htl a W _ hsz h4 h5 hb4 hL (by omega) (tab_below htab hBl hgl) hgl (Nat.le_refl _) ?_
    intro a' W' q1 q2 q3 q4 q5 q6 q7
    refine ⟨t.length, by simp, d ++ [r], t, _, by simp, rfl, q1, q2.trans hd, q3.trans h4, q4.trans h5, q6, ?_, below_low hBl q7 (Nat.le_refl _)⟩
    rw [Mof_snoc]
    exact q5
end Go.Proofs.YtfcalbjebomgcaaGreatDoor.X
