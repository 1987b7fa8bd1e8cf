/- ParseStats's round, part by part. -/
import Derived.Test.YtfcalbjebomgcaaGreatDoorM17
set_option linter.unusedVariables false
set_option linter.unusedSimpArgs false
namespace Go.Proofs.YtfcalbjebomgcaaGreatDoor.X
open Go.RowKit Go.Proofs.YtfcalbjebomgcaaGreatDoorW.PrintWords Go.Proofs.YtfcalbjebomgcaaGreatDoorW.PrintLast Go.Proofs.YtfcalbjebomgcaaGreatDoorW.PrintMore Go.Proofs.YtfcalbjebomgcaaGreatDoor.Q

theorem below_low {B C : Nat} {w W W1 : World} (h : Below B w W) (h1 : Below C W W1) (hBC : B ≤ C) : Below B w W1 :=
  ⟨h1.os.trans h.os, h1.tape.trans h.tape, h1.output.trans h.output, Nat.le_trans h.size h1.size, fun k hk => (h1.block k (Nat.lt_of_lt_of_le hk hBC)).trans (h.block k hk)⟩
theorem tab_below {B : Nat} {w W : World} (h : Lib.TabIs Tryz.prog w "strings.asciiSpace" .u8 Lib.asciiSpaceTab) (hb : Below B w W) (hB : ∀ g, Tryz.prog.globalNamed "strings.asciiSpace" = some g → g < B) : Lib.TabIs Tryz.prog W "strings.asciiSpace" .u8 Lib.asciiSpaceTab := by
  unfold Lib.TabIs World.var? at *
  cases hg : Tryz.prog.globalNamed "strings.asciiSpace" with
  | none => rw [hg] at h; cases h
  | some g =>
    rw [hg] at h
    simp only [Option.bind_some] at h ⊢
    rw [hb.block g (hB g hg)]
    exact h
theorem yield_of {ops : Array Oper} {a : Act} {j s : Nat} {b : Bool} (hs : (ops[j]?).bind (·.dst) = some s) (hsz : s < a.tmps.size) (he : a.eval (.tmp s) = .bool b) : yielded ops a.tmps j = some b := by
  have h1 : a.tmps[s]? = some (.bool b) := by
    have : a.tmps[s]?.getD undef = .bool b := by simpa [Act.eval] using he
    rw [Array.getElem?_eq_getElem hsz] at this ⊢
    rw [← this]; rfl
  unfold yielded
  rw [hs]
  simp only [Option.bind_some, h1]
theorem unwanted_event {ops : Array Oper} {rest : List Oper} {o : Oper} {a : Act} {W : World} {Q : Exit → Act → World → Prop} {j : Nat} (hg : o.guard = some (j, true)) (hy : yielded ops a.tmps j = some false) (h : wpList Tryz.prog ops Q rest (a.put o.dst undef) W) : wpList Tryz.prog ops Q (o :: rest) a W := by
  unfold wpList
  rw [if_neg (by unfold Region.wanted; rw [hg]; simp [hy])]
  exact h
theorem o_pick (a : Act) (W : World) (pos : String) (s t u ty : Nat) (af : List Edge) (h : a.eval (.tmp t) = .bool false) :
  (execOp a.eval (mkO pos (some s) (.pick (.tmp t) (.tmp u) (.const (.bool false))) ty af)).run Tryz.prog W = .ok (.value (.bool false)) W := by
  have h' : a.tmps[t]?.getD undef = .bool false := by simpa [Act.eval] using h
  simp only [execOp, mkO]
  go_simp
theorem o_lt2 (a : Act) (W : World) (pos : String) (s t n : Nat) (af : List Edge) (h : a.eval (.tmp t) = .int .i64 n) (hn : 2 ≤ n) :
  (execOp a.eval (mkO pos (some s) (.binOp .lss 3 (.tmp t) (.const (.int .i64 2)) 3) 4 af)).run Tryz.prog W = .ok (.value (.bool false)) W := by
  have hu := Tryz.underlying3
  have h' : a.tmps[t]?.getD undef = .int .i64 n := by simpa [Act.eval] using h
  simp only [execOp, mkO]
  go_simp
  omega
theorem o_index0 (a : Act) (W : World) (pos : String) (s t g n : Nat) (af : List Edge) (h : a.eval (.tmp t) = .slice (some ⟨g, 0, none⟩) n n) (hn0 : 0 < n) (hn : n ≤ 2000) :
  (execOp a.eval (mkO pos (some s) (.indexAddr 29 (.tmp t) (.const (.int .i64 0))) 0 af)).run Tryz.prog W = .ok (.value (.pointer (some ⟨g, 0, none⟩))) W := by
  have h1 := Tryz.underlying29
  have i1 : (Tryz.prog.info? 9).map (·.size) = some 1 := by kernel_rfl
  have h' : a.tmps[t]?.getD undef = .slice (some ⟨g, 0, none⟩) n n := by simpa [Act.eval] using h
  simp only [execOp, mkO]
  go_simp
set_option maxRecDepth 100000 in
theorem gc_wp (label : ByteArray) (hne : (label.toList == (⟨#[103, 99]⟩ : ByteArray).toList) = false) (a : Act) (W : World) (Q : Exit → Act → World → Prop) (dead : Code) (hsz : a.tmps.size = 364) (h7 : a.eval (.tmp 7) = .string label)
    (k : ∀ a' : Act, a'.tmps.size = 364 → a'.defers = a.defers → (∀ t : Nat, t < 30 → a'.eval (.tmp t) = a.eval (.tmp t)) → Q .normal a' W) :
    (Code.seq (.region 7 reg7.toArray false) (.cond (.tmp 42) dead .skip)).wp Tryz.prog Q a W := by
  refine wp_seq (wp_region_lit ?_)
  have y2 : (reg7.toArray[2]?).bind (·.dst) = some 32 := rfl
  have y7 : (reg7.toArray[7]?).bind (·.dst) = some 37 := rfl
  generalize reg7.toArray = ops at *
  unfold reg7
  refine Kd.event_run rfl (o_move _ _ _ _ _ _ _ _ h7) ?_
  refine Kd.event_run rfl (o_eqs _ _ _ _ _ label _ _ (by simp only [mkO]; rw [ev_same (by omega)])) ?_
  rw [hne]
  refine Kd.event_run rfl (o_move _ _ _ _ _ _ (.bool false) _ (by simp only [mkO]; rw [ev_same (by simp only [size_put]; omega)])) ?_
  refine unwanted_event rfl (yield_of y2 (by simp only [mkO, size_put]; omega) (b := false) (by simp only [mkO]; rw [ev_same (by simp only [size_put]; omega)])) ?_
  refine unwanted_event rfl (yield_of y2 (by simp only [mkO, mkG, size_put]; omega) (b := false) (by simp only [mkO, mkG]; rw [ev_other (by omega), ev_same (by simp only [size_put]; omega)])) ?_
  refine unwanted_event rfl (yield_of y2 (by simp only [mkO, mkG, size_put]; omega) (b := false) (by simp only [mkO, mkG]; rw [ev_other (by omega), ev_other (by omega), ev_same (by simp only [size_put]; omega)])) ?_
  refine Kd.event_run rfl (o_pick _ _ _ _ _ _ _ _ (by simp only [mkO, mkG]; rw [ev_other (by omega), ev_other (by omega), ev_other (by omega), ev_same (by simp only [size_put]; omega)])) ?_
  refine Kd.event_run rfl (o_move _ _ _ _ _ _ (.bool false) _ (by simp only [mkO, mkG]; rw [ev_same (by simp only [size_put]; omega)])) ?_
  refine unwanted_event rfl (yield_of y7 (by simp only [mkO, mkG, size_put]; omega) (b := false) (by simp only [mkO, mkG]; rw [ev_same (by simp only [size_put]; omega)])) ?_
  refine unwanted_event rfl (yield_of y7 (by simp only [mkO, mkG, size_put]; omega) (b := false) (by simp only [mkO, mkG]; rw [ev_other (by omega), ev_same (by simp only [size_put]; omega)])) ?_
  refine unwanted_event rfl (yield_of y7 (by simp only [mkO, mkG, size_put]; omega) (b := false) (by simp only [mkO, mkG]; rw [ev_other (by omega), ev_other (by omega), ev_same (by simp only [size_put]; omega)])) ?_
  refine unwanted_event rfl (yield_of y7 (by simp only [mkO, mkG, size_put]; omega) (b := false) (by simp only [mkO, mkG]; rw [ev_other (by omega), ev_other (by omega), ev_other (by omega), ev_same (by simp only [size_put]; omega)])) ?_
  refine Kd.event_run rfl (o_pick _ _ _ _ _ _ _ _ (by simp only [mkO, mkG]; rw [ev_other (by omega), ev_other (by omega), ev_other (by omega), ev_other (by omega), ev_same (by simp only [size_put]; omega)])) ?_
  refine wpList_nil ?_
  refine wp_cond_false (by simp only [mkO, mkG]; rw [ev_same (by simp only [size_put]; omega)]) (wp_skip ?_)
  refine k _ ?_ ?_ ?_
  · simp only [mkO, mkG, size_put]; exact hsz
  · simp only [mkO, mkG, defers_put]
  · intro t ht
    simp only [mkO, mkG]
    repeat rw [ev_other (by omega)]
end Go.Proofs.YtfcalbjebomgcaaGreatDoor.X

/- ParseStats's round: a line that was written from a row turns the struct of all counters at the row's group. -/
namespace Go.Proofs.YtfcalbjebomgcaaGreatDoor.X
open Go.RowKit Go.Proofs.YtfcalbjebomgcaaGreatDoorW.PrintWords Go.Proofs.YtfcalbjebomgcaaGreatDoorW.PrintLast Go.Proofs.YtfcalbjebomgcaaGreatDoorW.PrintMore Go.Proofs.YtfcalbjebomgcaaGreatDoor.Q

/-- A name's place among the groups. -/
def gi (name : ByteArray) : Nat := xfsGroups.findIdx (fun g => g.f0.toList == name.toList)
def routeB (i : Nat) : Bool :=
  let g := xfsGroups.getD i z52
  statLens.getD i 0 == g.f2.length && decide (0 < statLens.getD i 0) && decide (statLens.getD i 0 ≤ 15) && gi g.f0 == i && (g.f0.toList == [103, 99] ||
    (if g.f0.toList == [120, 112, 99] then i == 13 else if g.f0.toList == [100, 101, 102, 101, 114, 95, 114, 101, 108, 111, 103] then i == 32 else
      match arms.find? (fun y => g.f0.toList == y.label.toList) with | some x => x.j - 1 == i && !(wideI i) | none => false))
theorem route_all : ∀ i, i < 34 → routeB i = true := by decide +kernel
theorem row_group (r : S31) (h : fineRow r = true) : ∃ i, i < 34 ∧ gi r.f0 = i ∧ (xfsGroups.getD i z52).f0 = r.f0 ∧ r.f1.length = statLens.getD i 0 ∧ 0 < r.f1.length ∧ r.f1.length ≤ 15 ∧ (r.f0.toList == [103, 99]) = false ∧
    (if r.f0.toList == [120, 112, 99] then i = 13 else if r.f0.toList == [100, 101, 102, 101, 114, 95, 114, 101, 108, 111, 103] then i = 32 else
      (∃ x, arms.find? (fun y => r.f0.toList == y.label.toList) = some x ∧ x.j - 1 = i ∧ wideI i = false) ∧ ∀ n ∈ r.f1, n < 4294967296) := by
  have h0 := h
  unfold fineRow at h
  cases hg : groupOf xfsGroups r.f0 with
  | none => rw [hg] at h; cases h
  | some g =>
    rw [hg] at h
    obtain ⟨hm, he⟩ := groupOf_eq hg
    simp only [Bool.and_eq_true, Bool.not_eq_true', Bool.or_eq_true] at h
    obtain ⟨⟨hgc, hl, _⟩, hb⟩ := h
    obtain ⟨i, hi, hgi⟩ := List.getElem_of_mem hm
    have hi34 : i < 34 := hi
    have hgd : xfsGroups.getD i z52 = g := by rw [List.getD_eq_getElem?_getD, List.getElem?_eq_getElem hi, hgi]; rfl
    have hr := route_all i hi34
    unfold routeB at hr
    rw [hgd] at hr
    dsimp only at hr
    rw [he] at hr
    simp only [Bool.and_eq_true, Bool.or_eq_true, hgc, Bool.false_eq_true, false_or, decide_eq_true_eq] at hr
    obtain ⟨⟨⟨⟨r1, r2⟩, r3⟩, r4⟩, r5⟩ := hr
    have hlen : r.f1.length = statLens.getD i 0 := (beq_iff_eq.1 hl).trans (beq_iff_eq.1 r1).symm
    refine ⟨i, hi34, beq_iff_eq.1 r4, hgd ▸ he, hlen, by omega, by omega, hgc, ?_⟩
    split
    · rename_i hx; rw [if_pos hx] at r5; exact beq_iff_eq.1 r5
    · rename_i hx
      rw [if_neg hx] at r5
      split
      · rename_i hd; rw [if_pos hd] at r5; exact beq_iff_eq.1 r5
      · rename_i hd
        rw [if_neg hd] at r5
        refine ⟨?_, ?_⟩
        · cases hf : arms.find? (fun y => r.f0.toList == y.label.toList) with
          | none => rw [hf] at r5; cases r5
          | some x =>
            rw [hf] at r5
            simp only [Bool.and_eq_true, Bool.not_eq_true', beq_iff_eq] at r5
            exact ⟨x, rfl, r5.1, r5.2⟩
        · rcases hb with hb | hb | hb
          · exact absurd hb hx
          · exact absurd hb hd
          · intro n hn
            exact of_decide_eq_true (List.all_eq_true.1 hb n hn)

def wideCode (r : Nat) (p1 p2 p3 p4 : String) (s us err rt1 F rt2 T j : Nat) (d1 d2 : Code) : Code :=
  .seq (.region r (parseOps p1 s us err (pF true) rt1 (stT true)).toArray false) (.seq (.seq (.region (r + 1) (errOps p2 (s + 6) err).toArray false) (.cond (.tmp (s + 6 + 1)) d1 .skip))
    (.seq (.region (r + 3) (storeOps p3 (s + 9) us err F rt2 T (stT true) j).toArray false) (.seq (.seq (.region (r + 4) (errOps p4 (s + 15) err).toArray false) (.cond (.tmp (s + 15 + 1)) d2 .skip)) (.exit 1))))
theorem off_le (j : Nat) (h : j - 1 < 34) : 1 + (statLens.take (j - 1)).sum + statLens.getD (j - 1) 0 ≤ 1 + statLens.sum := by
  have hle : ∀ i, i < 34 → (statLens.take i).sum + statLens.getD i 0 ≤ statLens.sum := by decide
  have := hle _ h
  omega
set_option maxRecDepth 100000 in
theorem wide_wp (r : Nat) (p1 p2 p3 p4 : String) (s us err rt1 F rt2 T j : Nat) (d1 d2 : Code) (name : List UInt8) (ns : List Int) (g b4 : Nat) (M : Nat → List Int) (nm : ByteArray) (a : Act) (W : World) (Q : Exit → Act → World → Prop)
    (hok : FieldOk true F T j) (hM : LensOk M) (hns : ns.length = statLens.getD (j - 1) 0) (hn15 : ns.length ≤ 15) (hw : ∀ n ∈ ns, 0 ≤ n ∧ n < 18446744073709551616)
    (hus : us < s) (herr : err < s) (hue : us ≠ err) (hu4 : 5 < us) (he4 : 5 < err) (hs : 6 < s) (hsz : s + 17 ≤ a.tmps.size)
    (h4 : a.eval (.tmp 4) = .pointer (some ⟨b4, 0, none⟩)) (h6 : a.eval (.tmp 6) = .slice (some ⟨g, 0, none⟩) (ns.length + 1) (ns.length + 1)) (hg : W.heap[g]? = some (.cells (fieldCells name ns) 9 (0, 0))) (hb4 : W.heap[b4]? = some (.cells (statArgs nm M) 123 (0, 0)))
    (k : ∀ (a' : Act) (W1 : World), a'.tmps.size = a.tmps.size → a'.defers = a.defers → (∀ t : Nat, t < 6 → a'.eval (.tmp t) = a.eval (.tmp t)) → Below W.heap.size W W1 → Q (.exit 1) a' (W1.setRow b4 (statArgs nm (upd M (j - 1) ns)))) :
    (wideCode r p1 p2 p3 p4 s us err rt1 F rt2 T j d1 d2).wp Tryz.prog Q a W := by
  obtain ⟨fs, f, ff, hu, hj, ho, hft, hi, hF, hFn, hFb, hj34, hwd, hn0, hpb⟩ := hok
  rw [← hns] at hi hn0
  unfold wideCode
  refine wp_seq ?_
  refine parse_wp true p1 r s us err rt1 name ns g a W _ hus herr hue hs (by omega) hn0 (by omega) hw h6 hg ?_
  intro a1 W1 gv q1 q2 q3 q4 q5 q6 q7 q8
  refine wp_seq ?_
  refine err_wp p2 _ (s + 6) err a1 W1 _ (by omega) (by omega) q5 d1 ?_
  intro a2 r1 r2 r3
  refine wp_seq ?_
  refine store_wp true p3 _ (s + 9) us err F rt2 T j _ fs f ff ns gv b4 (ftT true) (statArgs nm M) a2 W1 _ (by omega) (by omega) (by omega) (by omega) (by omega) hn0 hu hj ho hft hi hF hFn hFb (fun w hg => hpb ns hns gv _ w hg) ?_ q6 ?_ (blk_below hb4 q8) ?_ ?_
  · rw [r3 us (by omega)]; exact q4
  · rw [r3 4 (by omega), q3 4 (by omega) (by omega) (by omega)]; exact h4
  · rw [stat_len nm M hM, hns]; exact off_le j hj34
  intro a3 W2 u1 u2 u3 u4 u5
  have hst := stat_upd nm M hM (j - 1) hj34 ns _ rfl hns
  rw [hwd] at hst
  rw [hst]
  refine wp_seq ?_
  refine err_wp p4 _ (s + 15) err a3 _ _ (by omega) (by omega) u4 d2 ?_
  intro a4 v1 v2 v3
  refine wp_exit ?_
  refine k a4 W2 (by omega) (by rw [v2, u2, r2, q2]) (fun t ht => ?_) (below_step q8 u5)
  rw [v3 t (by omega), u3 t (by omega) (by omega), r3 t (by omega), q3 t (by omega) (by omega) (by omega)]

def narrowCode (d1 d2 : Code) : Code :=
  .seq (.region 28 (parseOps "parse.go:120" 101 14 15 (pF false) 150 (stT false)).toArray false) (.seq (.seq (.region 29 (errOps "parse.go:121" 107 15).toArray false) (.cond (.tmp (107 + 1)) d1 .skip))
    (.seq (.seq (.region 31 reg31.toArray false) (.block 2 (armsCode arms 32 111))) (.seq (.region 94 (errOps "parse.go:189" 359 15).toArray false) (.cond (.tmp (359 + 1)) d2 .skip))))
set_option maxRecDepth 100000 in
theorem narrow_wp (d1 d2 : Code) (label : ByteArray) (x : Arm) (name : List UInt8) (ns : List Int) (g b4 : Nat) (M : Nat → List Int) (nm : ByteArray) (a : Act) (W : World) (Q : Exit → Act → World → Prop)
    (hf : arms.find? (fun y => label.toList == y.label.toList) = some x) (hM : LensOk M) (hns : ns.length = statLens.getD (x.j - 1) 0) (hn0 : 0 < ns.length) (hn15 : ns.length ≤ 15) (hw : ∀ n ∈ ns, 0 ≤ n ∧ n < 4294967296) (hsz : a.tmps.size = 364)
    (h4 : a.eval (.tmp 4) = .pointer (some ⟨b4, 0, none⟩)) (h7 : a.eval (.tmp 7) = .string label) (h6 : a.eval (.tmp 6) = .slice (some ⟨g, 0, none⟩) (ns.length + 1) (ns.length + 1)) (hg : W.heap[g]? = some (.cells (fieldCells name ns) 9 (0, 0))) (hb4 : W.heap[b4]? = some (.cells (statArgs nm M) 123 (0, 0)))
    (k : ∀ (a' : Act) (W1 : World), a'.tmps.size = a.tmps.size → a'.defers = a.defers → (∀ t : Nat, t < 6 → a'.eval (.tmp t) = a.eval (.tmp t)) → Below W.heap.size W W1 → Q .normal a' (W1.setRow b4 (statArgs nm (upd M (x.j - 1) ns)))) :
    (narrowCode d1 d2).wp Tryz.prog Q a W := by
  unfold narrowCode
  refine wp_seq ?_
  refine parse_wp false _ 28 101 14 15 150 name ns g a W _ (by omega) (by omega) (by omega) (by omega) (by omega) hn0 (by omega) hw h6 hg ?_
  intro a1 W1 gv q1 q2 q3 q4 q5 q6 q7 q8
  refine wp_seq ?_
  refine err_wp _ _ 107 15 a1 W1 _ (by omega) (by omega) q5 d1 ?_
  intro a2 r1 r2 r3
  refine wp_seq (wp_seq (wp_region_lit ?_))
  unfold reg31
  refine Kd.event_run rfl (o_move _ _ _ _ _ _ (.string label) _ (by rw [r3 7 (by omega), q3 7 (by omega) (by omega) (by omega)]; exact h7)) ?_
  refine wpList_nil ?_
  refine wp_block ?_
  refine arms_wp label x ns gv b4 M nm W1 _ hM hns q6 (blk_below hb4 q8) arms 32 111 _ arms_ok hf (by omega) (by simp only [mkO, size_put]; rw [r1, q1, hsz]; decide) ?_ ?_ ?_ ?_
  · simp only [mkO]; rw [ev_same (by omega)]
  · simp only [mkO]; rw [ev_other (by omega), r3 14 (by omega)]; exact q4
  · simp only [mkO]; rw [ev_other (by omega), r3 4 (by omega), q3 4 (by omega) (by omega) (by omega)]; exact h4
  intro a3 W2 u1 u2 u3 u4 u5
  refine err_wp _ _ 359 15 a3 _ _ (by omega) (by rw [u1]; simp only [mkO, size_put]; omega) u4 d2 ?_
  intro a4 v1 v2 v3
  refine k a4 W2 (by rw [v1, u1]; simp only [mkO, size_put]; omega) (by rw [v2, u2]; simp only [mkO, defers_put]; rw [r2, q2]) (fun t ht => ?_) (below_step q8 u5)
  rw [v3 t (by omega), u3 t (by omega) (by omega)]
  simp only [mkO]; rw [ev_other (by omega), r3 t (by omega), q3 t (by omega) (by omega) (by omega)]
end Go.Proofs.YtfcalbjebomgcaaGreatDoor.X

/- ParseStats's round as a whole. -/
namespace Go.Proofs.YtfcalbjebomgcaaGreatDoor.X
open Go.RowKit Go.Proofs.YtfcalbjebomgcaaGreatDoorW.PrintWords Go.Proofs.YtfcalbjebomgcaaGreatDoorW.PrintLast Go.Proofs.YtfcalbjebomgcaaGreatDoorW.PrintMore Go.Proofs.YtfcalbjebomgcaaGreatDoor.Q

def labelCode (dgc dx1 dx2 dd1 dd2 d30 d95 : Code) : Code :=
  .seq (.seq (.region 7 reg7.toArray false) (.cond (.tmp 42) dgc .skip))
    (.seq (.seq (.region 14 reg14.toArray false) (.cond (.tmp 62) (wideCode 15 "parse.go:93" "parse.go:94" "parse.go:98" "parse.go:99" 63 10 11 141 43 145 92 14 dx1 dx2) .skip))
      (.seq (.seq (.region 21 reg21.toArray false) (.cond (.tmp 82) (wideCode 22 "parse.go:108" "parse.go:109" "parse.go:112" "parse.go:113" 83 12 13 141 44 147 119 33 dd1 dd2) .skip)) (narrowCode d30 d95)))
def roundCode (dgc dx1 dx2 dd1 dd2 d30 d95 : Code) : Code :=
  .seq (.seq (.region 3 reg3.toArray false) (.cond (.tmp 19) .skip (.exit 0)))
    (.block 1 (.seq (.region 4 reg4.toArray false) (.seq (.seq (.region 5 reg5.toArray false) (.cond (.tmp 26) (.exit 1) .skip)) (.seq (.region 6 reg6.toArray false) (labelCode dgc dx1 dx2 dd1 dd2 d30 d95)))))
theorem body21r : ∃ dgc dx1 dx2 dd1 dd2 d30 d95 : Code, Tryz.f21.body = some (.seq (.region 0 reg0.toArray false) (.seq (.region 1 reg1.toArray false) (.seq (.region 2 reg2.toArray false) (.seq (.block 0 (.loop (roundCode dgc dx1 dx2 dd1 dd2 d30 d95))) (.seq (.region 96 reg96.toArray false) .ret))))) :=
  ⟨_, _, _, _, _, _, _, body21⟩

theorem o_conv9 (a : Act) (W : World) (pos : String) (s t g c : Nat) (l : List UInt8) (af : List Edge) (h : a.eval (.tmp t) = .slice (some ⟨g, 0, none⟩) l.length c) (hc : ∀ j (hj : j < l.length), W.cell? ⟨g, j, none⟩ = some (.int .u8 (l[j].toNat : Int))) :
  (execOp a.eval (mkO pos (some s) (.convert 139 9 (.tmp t)) 9 af)).run Tryz.prog W = .ok (.value (.string ⟨l.toArray⟩)) W := by
  have hcv := run_convert_bytes_back (P := Tryz.prog) W 139 9 5 ⟨g, 0, none⟩ c l Tryz.underlying139 Tryz.underlying5 Tryz.underlying9 (fun j hj => by rw [add_plain]; exact hc j hj)
  unfold execOp
  simp only [mkO, h, Sem.run_bind, hcv]
  rfl
set_option maxRecDepth 100000 in
set_option maxHeartbeats 2000000 in
theorem label_wp (dgc dx1 dx2 dd1 dd2 d30 d95 : Code) (r : S31) (hf : fineRow r = true) (hw : ∀ n ∈ r.f1, 0 ≤ n ∧ n < 18446744073709551616) (g b4 : Nat) (M : Nat → List Int) (hM : LensOk M) (nm : ByteArray) (a : Act) (W : World) (Q : Exit → Act → World → Prop)
    (hsz : a.tmps.size = 364) (h4 : a.eval (.tmp 4) = .pointer (some ⟨b4, 0, none⟩)) (h7 : a.eval (.tmp 7) = .string r.f0) (h6 : a.eval (.tmp 6) = .slice (some ⟨g, 0, none⟩) (r.f1.length + 1) (r.f1.length + 1)) (hg : W.heap[g]? = some (.cells (fieldCells r.f0.data.toList r.f1) 9 (0, 0))) (hb4 : W.heap[b4]? = some (.cells (statArgs nm M) 123 (0, 0)))
    (k : ∀ (a' : Act) (W1 : World) (e : Exit), e = .normal ∨ e = .exit 1 → a'.tmps.size = 364 → a'.defers = a.defers → (∀ t : Nat, t < 6 → a'.eval (.tmp t) = a.eval (.tmp t)) → Below W.heap.size W W1 → Q e a' (W1.setRow b4 (statArgs nm (upd M (gi r.f0) r.f1)))) :
    (labelCode dgc dx1 dx2 dd1 dd2 d30 d95).wp Tryz.prog Q a W := by
  obtain ⟨i, hi, hgi, hgn, hlen, hn0, hn15, hgc, hroute⟩ := row_group r hf
  have l1 : (⟨#[103, 99]⟩ : ByteArray).toList = [103, 99] := by rw [ByteArray.toList_eq]
  have l2 : (⟨#[120, 112, 99]⟩ : ByteArray).toList = [120, 112, 99] := by rw [ByteArray.toList_eq]
  have l3 : (⟨#[100, 101, 102, 101, 114, 95, 114, 101, 108, 111, 103]⟩ : ByteArray).toList = [100, 101, 102, 101, 114, 95, 114, 101, 108, 111, 103] := by rw [ByteArray.toList_eq]
  unfold labelCode
  refine wp_seq ?_
  refine gc_wp r.f0 (by rw [l1]; exact hgc) a W _ dgc hsz h7 ?_
  intro a1 q1 q2 q3
  refine wp_seq (wp_seq (wp_region_lit ?_))
  unfold reg14
  refine Kd.event_run rfl (o_move _ _ _ _ _ _ (.string r.f0) _ (by rw [q3 7 (by omega)]; exact h7)) ?_
  refine Kd.event_run rfl (o_eqs _ _ _ _ _ r.f0 _ _ (by simp only [mkO]; rw [ev_same (by omega)])) ?_
  rw [l2]
  refine wpList_nil ?_
  refine wp_cond (t := (r.f0.toList == [120, 112, 99])) (by simp only [mkO]; rw [ev_same (by simp only [size_put]; omega)]) ?_
  cases hx : (r.f0.toList == [120, 112, 99]) with
  | true =>
    rw [hx, if_pos rfl] at hroute
    subst hroute
    rw [if_pos rfl]
    refine wide_wp 15 _ _ _ _ 63 10 11 141 43 145 92 14 dx1 dx2 r.f0.data.toList r.f1 g b4 M nm _ W _ fok14 hM hlen hn15 hw (by omega) (by omega) (by omega) (by omega) (by omega) (by omega) (by simp only [mkO, size_put]; omega) ?_ ?_ hg hb4 ?_
    · simp only [mkO]; rw [ev_other (by omega), ev_other (by omega), q3 4 (by omega)]; exact h4
    · simp only [mkO]; rw [ev_other (by omega), ev_other (by omega), q3 6 (by omega)]; exact h6
    intro a2 W1 r1 r2 r3 r4
    have hk := k a2 W1 (.exit 1) (.inr rfl) (by rw [r1]; simp only [mkO, size_put]; omega) (by rw [r2]; simp only [mkO, defers_put]; rw [q2]) (fun t ht => by rw [r3 t ht]; simp only [mkO]; rw [ev_other (by omega), ev_other (by omega), q3 t (by omega)]) r4
    rw [hgi] at hk
    exact hk
  | false =>
    rw [hx, if_neg (by simp)] at hroute
    rw [if_neg (by simp)]
    refine wp_skip ?_
    refine wp_seq (wp_seq (wp_region_lit ?_))
    unfold reg21
    refine Kd.event_run rfl (o_move _ _ _ _ _ _ (.string r.f0) _ (by simp only [mkO]; rw [ev_other (by omega), ev_other (by omega), q3 7 (by omega)]; exact h7)) ?_
    refine Kd.event_run rfl (o_eqs _ _ _ _ _ r.f0 _ _ (by simp only [mkO]; rw [ev_same (by simp only [size_put]; omega)])) ?_
    rw [l3]
    refine wpList_nil ?_
    refine wp_cond (t := (r.f0.toList == [100, 101, 102, 101, 114, 95, 114, 101, 108, 111, 103])) (by simp only [mkO]; rw [ev_same (by simp only [size_put]; omega)]) ?_
    cases hd : (r.f0.toList == [100, 101, 102, 101, 114, 95, 114, 101, 108, 111, 103]) with
    | true =>
      rw [hd, if_pos rfl] at hroute
      subst hroute
      rw [if_pos rfl]
      refine wide_wp 22 _ _ _ _ 83 12 13 141 44 147 119 33 dd1 dd2 r.f0.data.toList r.f1 g b4 M nm _ W _ fok33 hM hlen hn15 hw (by omega) (by omega) (by omega) (by omega) (by omega) (by omega) (by simp only [mkO, size_put]; omega) ?_ ?_ hg hb4 ?_
      · simp only [mkO]; rw [ev_other (by omega), ev_other (by omega), ev_other (by omega), ev_other (by omega), q3 4 (by omega)]; exact h4
      · simp only [mkO]; rw [ev_other (by omega), ev_other (by omega), ev_other (by omega), ev_other (by omega), q3 6 (by omega)]; exact h6
      intro a2 W1 r1 r2 r3 r4
      have hk := k a2 W1 (.exit 1) (.inr rfl) (by rw [r1]; simp only [mkO, size_put]; omega) (by rw [r2]; simp only [mkO, defers_put]; rw [q2]) (fun t ht => by rw [r3 t ht]; simp only [mkO]; rw [ev_other (by omega), ev_other (by omega), ev_other (by omega), ev_other (by omega), q3 t (by omega)]) r4
      rw [hgi] at hk
      exact hk
    | false =>
      rw [hd, if_neg (by simp)] at hroute
      rw [if_neg (by simp)]
      obtain ⟨⟨x, hfind, hxj, hwd⟩, h32⟩ := hroute
      refine wp_skip ?_
      refine narrow_wp d30 d95 r.f0 x r.f0.data.toList r.f1 g b4 M nm _ W _ hfind hM (by rw [hxj]; exact hlen) hn0 hn15 (fun n hn => ⟨(hw n hn).1, h32 n hn⟩) (by simp only [mkO, size_put]; omega) ?_ ?_ ?_ hg hb4 ?_
      · simp only [mkO]; rw [ev_other (by omega), ev_other (by omega), ev_other (by omega), ev_other (by omega), q3 4 (by omega)]; exact h4
      · simp only [mkO]; rw [ev_other (by omega), ev_other (by omega), ev_other (by omega), ev_other (by omega), q3 7 (by omega)]; exact h7
      · simp only [mkO]; rw [ev_other (by omega), ev_other (by omega), ev_other (by omega), ev_other (by omega), q3 6 (by omega)]; exact h6
      intro a2 W1 r1 r2 r3 r4
      have hk := k a2 W1 .normal (.inl rfl) (by rw [r1]; simp only [mkO, size_put]; omega) (by rw [r2]; simp only [mkO, defers_put]; rw [q2]) (fun t ht => by rw [r3 t ht]; simp only [mkO]; rw [ev_other (by omega), ev_other (by omega), ev_other (by omega), ev_other (by omega), q3 t (by omega)]) r4
      rw [hgi] at hk
      rw [hxj]
      exact hk
end Go.Proofs.YtfcalbjebomgcaaGreatDoor.X
