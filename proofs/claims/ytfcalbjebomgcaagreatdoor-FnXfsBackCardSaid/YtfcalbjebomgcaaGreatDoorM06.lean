/- The tree of rows, as plain values; what named and fill answer. -/
import Derived.Test.YtfcalbjebomgcaaGreatDoorM02
import Derived.Test.YtfcalbjebomgcaaGreatDoorM04
import Derived.Test.YtfcalbjebomgcaaGreatDoorM03
import Derived.Test.YtfcalbjebomgcaaGreatDoorM05
set_option linter.unusedVariables false
set_option linter.unusedSimpArgs false
namespace Go.Proofs.YtfcalbjebomgcaaGreatDoor.X
open Go.RowKit Go.Proofs.YtfcalbjebomgcaaGreatDoorW.PrintWords Go.Proofs.YtfcalbjebomgcaaGreatDoorW.PrintLast Go.Proofs.YtfcalbjebomgcaaGreatDoorW.PrintMore Go.Proofs.YtfcalbjebomgcaaGreatDoor.Q

def uintN (name : ByteArray) (n : Int) : S39 := ⟨name, 3, false, 0, n, (0 : Nat), ⟨#[]⟩, []⟩
def textN (name s : ByteArray) : S39 := ⟨name, 5, false, 0, 0, (0 : Nat), s, []⟩
def recN (name : ByteArray) (kids : List S39) : S39 := ⟨name, 8, false, 0, 0, (0 : Nat), ⟨#[]⟩, kids⟩
/-- The numbers of a line under their names; without a number: 0. -/
def fillKids (fields : List ByteArray) (nums : List Int) : List S39 := (List.range fields.length).map (fun i => uintN (fields.getD i ⟨#[]⟩) (nums.getD i 0))
def fillN (name : ByteArray) (fields : List ByteArray) (nums : List Int) : S39 := recN name (fillKids fields nums)
/-- The numbers of the row of a name. -/
def rowNums (l : List S31) (name : ByteArray) : List Int := ((rowOf l name).map (·.f1)).getD []
def xfsKids (l : List S31) : List S39 := textN ⟨#[78, 97, 109, 101]⟩ ⟨#[]⟩ :: xfsGroups.map (fun g => fillN g.f1 g.f2 (rowNums l g.f0))

theorem fill_l0 (name : ByteArray) (fields : List ByteArray) (nums : List Int) (hn : fields.length ≤ 1000000) (hm : nums.length ≤ 9223372036854775807) : ∀ m i, i + m = fields.length →
    spec_fill.l0 (m + 1) name nums ((List.range i).map (fun i => uintN (fields.getD i ⟨#[]⟩) (nums.getD i 0))) fields (fields.length : Int) (i : Int) = some (name, 8, false, 0, 0, (0 : Nat), ⟨#[]⟩, fillKids fields nums)
  | 0, i, h => by
    unfold spec_fill.l0
    rw [if_neg (by omega)]
    obtain rfl : i = fields.length := by omega
    rfl
  | m + 1, i, h => by
    have ih := fill_l0 name fields nums hn hm m (i + 1) (by omega)
    have e1 : rdOf ByteArray.empty fields (i : Int) = fields.getD i ⟨#[]⟩ := by rw [rdOf, Int.toNat_natCast]; rfl
    have e2 : rd nums (i : Int) = nums.getD i 0 := by rw [rd, Int.toNat_natCast]
    rw [List.range_succ, List.map_append] at ih
    have w1 : wrap64 ((i : Int) + 1) = ((i + 1 : Nat) : Int) := by unfold wrap64; omega
    unfold spec_fill.l0
    rw [if_pos (by omega), if_pos (by omega), if_pos (by omega), e1, e2, w1]
    by_cases c : (i : Int) < (nums.length : Int)
    · rw [if_pos c]
      simp only [spec_uintNode.f, Option.bind_some]
      rw [if_pos (by rw [List.length_map, List.length_range]; omega)]
      exact ih
    · rw [if_neg c]
      simp only [spec_uintNode.f, Option.bind_some]
      rw [if_pos (by rw [List.length_map, List.length_range]; omega)]
      have e3 : nums.getD i 0 = 0 := by rw [List.getD_eq_getElem?_getD, List.getElem?_eq_none (by omega)]; rfl
      rw [List.map_cons, List.map_nil, e3] at ih
      exact ih

/-- What fill answers. -/
theorem fillX (name : ByteArray) (A1 : Option Addr) (c1 : Nat) (fields : List ByteArray) (A2 : Option Addr) (c2 : Nat) (nums : List Int) (w : World) (hr1 : Kd.string.C w A1 fields.length fields) (hc1 : fields.length ≤ c1) (hr2 : (Kd.int .u64).C w A2 nums.length nums) (hc2 : nums.length ≤ c2) (hn : fields.length ≤ 1000000) :
    Calls Tryz.prog 18 #[.string name, .slice A1 fields.length c1, .slice A2 nums.length c2] w fun e w' => ∃ A c, e = .returned (.agg #[.string name, .int .i64 8, .bool false, .int .i64 0, .int .u64 0, .float .f64 (0 : Nat), .string ⟨#[]⟩, .slice A (fillKids fields nums).length c]) ∧ (fillKids fields nums).length ≤ c ∧ Kd.F k39 w' (fun k => w.heap.size ≤ k) A (fillKids fields nums).length (fillKids fields nums) ∧ Below w.heap.size w w' := by
  refine (spec_fill.calls (fields.length + 1) name A1 c1 fields A2 c2 nums _ _ _ _ _ _ _ _ w hr1 hc1 hr2 hc2 (fill_l0 name fields nums hn hr2.2.1 fields.length 0 (by omega))).mono ?_
  rintro e w' ⟨v, rfl, ⟨A, c, rfl, hl, hF⟩, hB⟩
  exact ⟨A, c, rfl, hl, hF, hB⟩

/-- What named answers, as numbers. -/
theorem namedX (l : List S31) (name : ByteArray) (A : Option Addr) (c : Nat) (w : World) (hr : Kd.C k31 w A l.length l) (hc : l.length ≤ c) :
    Calls Tryz.prog 17 #[.slice A l.length c, .string name] w fun e w' => ∃ s A1 c1 A2 n2 c2 ok, e = .returned (.tuple #[.agg #[.string s, .slice A1 (rowNums l name).length c1, .slice A2 n2 c2], .bool ok]) ∧ (rowNums l name).length ≤ c1 ∧ (Kd.int .u64).C w' A1 (rowNums l name).length (rowNums l name) ∧ Below w.heap.size w w' := by
  unfold rowNums
  cases hg : rowOf l name with
  | none =>
    refine (named_none l name A c w hr hc hg).mono ?_
    rintro e w' ⟨rfl, hB⟩
    exact ⟨_, _, _, _, _, _, _, rfl, Nat.le_refl _, Kd.C_nil _ _, hB⟩
  | some r =>
    refine (named_some l name A c w hr hc r hg).mono ?_
    rintro e w' ⟨A1, c1, A2, c2, rfl, hl, hC, hB⟩
    exact ⟨_, _, _, _, _, _, _, rfl, hl, hC, hB⟩
end Go.Proofs.YtfcalbjebomgcaaGreatDoor.X

/- XfsTree by contract: the tree of rows. -/
namespace Go.Proofs.YtfcalbjebomgcaaGreatDoor.X
open Go.RowKit Go.Proofs.YtfcalbjebomgcaaGreatDoorW.PrintWords Go.Proofs.YtfcalbjebomgcaaGreatDoorW.PrintLast Go.Proofs.YtfcalbjebomgcaaGreatDoorW.PrintMore Go.Proofs.YtfcalbjebomgcaaGreatDoor.Q
attribute [local go_sem] run_store_float

/-- What stands in a round of XfsTree. -/
def TreeSt (l : List S31) (w W : World) (gg : Addr) (v : Value) (i : Nat) : Prop :=
  Kd.N k39 39 W w.heap.size (fun k => w.heap.size ≤ k ∧ k ≠ w.heap.size) v ((xfsKids l).take (i + 1)) ∧
  W.heap[w.heap.size]? = some (.cells #[.string ⟨#[]⟩, .int .i64 0, .bool false, .int .i64 0, .int .u64 0, .float .f64 0, .string ⟨#[]⟩, .slice none 0 0] 39 (0, 0)) ∧
  Kd.F k52 W (fun k => True ∧ some k ≠ v.ownBlock) (some gg) 34 xfsGroups ∧ Below w.heap.size w W
theorem TreeSt.below {l : List S31} {w W W' : World} {gg : Addr} {v : Value} {i : Nat} (h : TreeSt l w W gg v i) (hb : Below W.heap.size W W') : TreeSt l w W' gg v i :=
  ⟨Kd.N_below h.1 hb, blk_below h.2.1 hb, Kd.F_below h.2.2.1 hb, below_step h.2.2.2 hb⟩

theorem put8 {W : World} {b T : Nat} {a0 a1 a2 a3 a4 a5 a6 a7 : Value} (h : W.heap[b]? = some (.cells #[a0, a1, a2, a3, a4, a5, a6, a7] T (0, 0))) (v0 v1 v2 v3 v4 v5 v6 v7 : Value) :
    ((((((((W.setCell ⟨b, 0, none⟩ v0).setCell ⟨b, 1, none⟩ v1).setCell ⟨b, 2, none⟩ v2).setCell ⟨b, 3, none⟩ v3).setCell ⟨b, 4, none⟩ v4).setCell ⟨b, 5, none⟩ v5).setCell ⟨b, 6, none⟩ v6).setCell ⟨b, 7, none⟩ v7).heap[b]? = some (.cells #[v0, v1, v2, v3, v4, v5, v6, v7] T (0, 0)) := by
  have h0 := blk_put (cs := #[a0, a1, a2, a3, a4, a5, a6, a7]) h 0 v0 (cs' := #[v0, a1, a2, a3, a4, a5, a6, a7]) rfl
  have h1 := blk_put (cs := #[v0, a1, a2, a3, a4, a5, a6, a7]) h0 1 v1 (cs' := #[v0, v1, a2, a3, a4, a5, a6, a7]) rfl
  have h2 := blk_put (cs := #[v0, v1, a2, a3, a4, a5, a6, a7]) h1 2 v2 (cs' := #[v0, v1, v2, a3, a4, a5, a6, a7]) rfl
  have h3 := blk_put (cs := #[v0, v1, v2, a3, a4, a5, a6, a7]) h2 3 v3 (cs' := #[v0, v1, v2, v3, a4, a5, a6, a7]) rfl
  have h4 := blk_put (cs := #[v0, v1, v2, v3, a4, a5, a6, a7]) h3 4 v4 (cs' := #[v0, v1, v2, v3, v4, a5, a6, a7]) rfl
  have h5 := blk_put (cs := #[v0, v1, v2, v3, v4, a5, a6, a7]) h4 5 v5 (cs' := #[v0, v1, v2, v3, v4, v5, a6, a7]) rfl
  have h6 := blk_put (cs := #[v0, v1, v2, v3, v4, v5, a6, a7]) h5 6 v6 (cs' := #[v0, v1, v2, v3, v4, v5, v6, a7]) rfl
  have h7 := blk_put (cs := #[v0, v1, v2, v3, v4, v5, v6, a7]) h6 7 v7 (cs' := #[v0, v1, v2, v3, v4, v5, v6, v7]) rfl
  exact h7
theorem below_put8 {w W : World} {b : Nat} (h : Below w.heap.size w W) (hb : w.heap.size ≤ b) (v0 v1 v2 v3 v4 v5 v6 v7 : Value) :
    Below w.heap.size w ((((((((W.setCell ⟨b, 0, none⟩ v0).setCell ⟨b, 1, none⟩ v1).setCell ⟨b, 2, none⟩ v2).setCell ⟨b, 3, none⟩ v3).setCell ⟨b, 4, none⟩ v4).setCell ⟨b, 5, none⟩ v5).setCell ⟨b, 6, none⟩ v6).setCell ⟨b, 7, none⟩ v7) :=
  below_set (below_set (below_set (below_set (below_set (below_set (below_set (below_set h hb) hb) hb) hb) hb) hb) hb) hb

theorem kids_len (l : List S31) : (xfsKids l).length = 35 := by
  rw [xfsKids, List.length_cons, List.length_map]; rfl
theorem kids_take (l : List S31) (i : Nat) (hi : i < 34) : (xfsKids l).take (i + 1 + 1) = (xfsKids l).take (i + 1) ++ [fillN (xfsGroups.getD i z52).f1 (xfsGroups.getD i z52).f2 (rowNums l (xfsGroups.getD i z52).f0)] := by
  have hl : xfsGroups.length = 34 := rfl
  rw [List.take_succ_eq_append_getElem (by rw [kids_len]; omega)]
  congr 2
  simp only [xfsKids, List.getElem_cons_succ, List.getElem_map]
  rw [List.getD_eq_getElem?_getD, List.getElem?_eq_getElem (by omega)]
  rfl

theorem groups_len (i : Nat) (hi : i < 34) : (xfsGroups.getD i z52).f2.length ≤ 15 := by
  have h : (List.range 34).all (fun i => decide ((xfsGroups.getD i z52).f2.length ≤ 15)) = true := by decide +kernel
  exact of_decide_eq_true (List.all_eq_true.1 h i (List.mem_range.2 hi))

theorem V_put8 {α : Type} {d : Kd α} {e base b : Nat} {W : World} {ok : Nat → Prop} {v : Value} {xs : List α} (h : Kd.V d e W base ok v xs) (hok : ∀ k, ok k → k ≠ b) (v0 v1 v2 v3 v4 v5 v6 v7 : Value) :
    Kd.V d e ((((((((W.setCell ⟨b, 0, none⟩ v0).setCell ⟨b, 1, none⟩ v1).setCell ⟨b, 2, none⟩ v2).setCell ⟨b, 3, none⟩ v3).setCell ⟨b, 4, none⟩ v4).setCell ⟨b, 5, none⟩ v5).setCell ⟨b, 6, none⟩ v6).setCell ⟨b, 7, none⟩ v7) base ok v xs :=
  Kd.V_far (Kd.V_far (Kd.V_far (Kd.V_far (Kd.V_far (Kd.V_far (Kd.V_far (Kd.V_far h hok v0) hok v1) hok v2) hok v3) hok v4) hok v5) hok v6) hok v7

theorem textX (a0 a1 : ByteArray) (w : World) :
    Calls Tryz.prog 15 #[.string a0, .string a1] w fun e w' => ∃ A c, e = .returned (.agg #[.string a0, .int .i64 5, .bool false, .int .i64 0, .int .u64 0, .float .f64 (0 : Nat), .string a1, .slice A 0 c]) ∧ Kd.FK k39 w' (fun k => w.heap.size ≤ k) (textN a0 a1) [.string a0, .int .i64 5, .bool false, .int .i64 0, .int .u64 0, .float .f64 (0 : Nat), .string a1, .slice A 0 c] ∧ Below w.heap.size w w' := by
  refine (spec_textNode.calls a0 a1 _ _ _ _ _ _ _ _ w rfl).mono ?_
  rintro e w' ⟨v, rfl, hR, hB⟩
  obtain ⟨A, c, rfl⟩ := Kd.R_slice hR
  have h := Kd.R_F (Kd.R_mono (Kd.R_bound hR) (fun k hk => hk.2.1))
  exact ⟨A, c, rfl, k39_mkF w' _ (textN a0 a1) (Nat.zero_le _) h, hB⟩

set_option maxHeartbeats 8000000 in
set_option maxRecDepth 100000 in
theorem xfsTree_calls (l : List S31) (A : Option Addr) (c : Nat) (w : World) (hr : Kd.C k31 w A l.length l) (hc : l.length ≤ c) :
    Calls Tryz.prog 7 #[.slice A l.length c] w fun e w' => Below w.heap.size w w' ∧ (e = .returned (.tuple #[.agg #[.string ⟨#[]⟩, .int .i64 0, .bool false, .int .i64 0, .int .u64 0, .float .f64 0, .string ⟨#[]⟩, .slice none 0 0], .int .i64 2]) ∨ (FineRows l ∧ ∃ A7 c7, e = .returned (.tuple #[.agg #[.string ⟨#[]⟩, .int .i64 8, .bool false, .int .i64 0, .int .u64 0, .float .f64 (0 : Nat), .string ⟨#[]⟩, .slice A7 (xfsKids l).length c7], .int .i64 1]) ∧ k39.C w' A7 (xfsKids l).length (xfsKids l))) := by
  have HR := Aside0.mk hr
  have HLC := Aside0.mk hc
  have hm : l.length ≤ 9223372036854775807 := hr.2.1
  have hu31 := Tryz.underlying31
  have hu39 := Tryz.underlying39
  have hu52 := Tryz.underlying52
  clear hr hc
  go_enter Tryz.func7, Tryz.ntmps7
  go_wp2_with fail
  have HZ := Aside0.mk (blk_new w (.cells #[.string ⟨#[]⟩, .int .i64 0, .bool false, .int .i64 0, .int .u64 0, .float .f64 0, .string ⟨#[]⟩, .slice none 0 0] 39 (0, 0)))
  have HB := Aside0.mk (below_alloc (Below.refl w.heap.size w) (.cells #[.string ⟨#[]⟩, .int .i64 0, .bool false, .int .i64 0, .int .u64 0, .float .f64 0, .string ⟨#[]⟩, .slice none 0 0] 39 (0, 0)))
  have HC := Aside0.mk (Kd.C_alloc HR.out (.cells #[.string ⟨#[]⟩, .int .i64 0, .bool false, .int .i64 0, .int .u64 0, .float .f64 0, .string ⟨#[]⟩, .slice none 0 0] 39 (0, 0)))
  generalize (w.alloc (.cells #[.string ⟨#[]⟩, .int .i64 0, .bool false, .int .i64 0, .int .u64 0, .float .f64 0, .string ⟨#[]⟩, .slice none 0 0] 39 (0, 0))) = W0 at *
  refine (xfsFine_calls l A c W0 HC.out HLC.out).mono ?_
  rintro e w1 ⟨b, rfl, hb, hB⟩
  have HBb := Aside0.mk hb
  have HZ1 := Aside0.mk (blk_below HZ.out hB)
  have HB1 := Aside0.mk (below_step HB.out hB)
  clear hb hB HZ HB HC
  cases b
  · have z0 : ∀ j, w1.cell? ⟨w.heap.size, j, none⟩ = (#[.string ⟨#[]⟩, .int .i64 0, .bool false, .int .i64 0, .int .u64 0, .float .f64 0, .string ⟨#[]⟩, .slice none 0 0] : Array Value)[j]? := fun j => (blk_cell HZ1.out j)
    have f0 : ∀ j, w1.frozen? ⟨w.heap.size, j, none⟩ = false := fun j => blk_frozen HZ1.out j
    go_wp2
    refine bodyPost_ret (results_ct rfl _ _ w.heap.size 39 _ (0, 0) _ rfl (put8 HZ1.out _ _ _ _ _ _ _ _) hu39 rfl (by kernel_rfl)) rfl ?_
    exact ⟨below_put8 HB1.out (Nat.le_refl _) _ _ _ _ _ _ _ _, .inl rfl⟩
  · have HF := Aside0.mk (HBb.out rfl)
    clear HBb
    go_wp2_with fail
    refine (textX _ _ w1).mono ?_
    rintro e w2 ⟨At, ct, rfl, hFK, hB⟩
    have HFK := Aside0.mk hFK
    have HZ2 := Aside0.mk (blk_below HZ1.out hB)
    have HB2 := Aside0.mk (below_step HB1.out hB)
    have HS1 := Aside0.mk (blk_lt HZ1.out)
    have HS2 := Aside0.mk hB.size
    clear hB hFK HZ1 HB1
    go_wp2_with ((with_reducible refine gate_dst (N := 14) rfl ?_); refine Kd.N_lit k39 (w0 := w) w.heap.size 39 rfl (N' := 14) rfl (xs := [textN ⟨#[78, 97, 109, 101]⟩ ⟨#[]⟩]) (inner := [.string ⟨#[78, 97, 109, 101]⟩, .int .i64 5, .bool false, .int .i64 0, .int .u64 0, .float .f64 (0 : Nat), .string ⟨#[]⟩, .slice At 0 ct]) (ok := fun k => w.heap.size ≤ k ∧ k ≠ w.heap.size) (okp := fun k => w1.heap.size ≤ k) ?hrun ?hrep ?hok ?hfresh HB2.out ?hbase (by decide) ?_; (case hrun => first | (go_simp; done) | (go_simp; rfl)); (case hrep => exact Reps.c8 HFK.out (Reps.none _ _)); (case hok => exact fun k hk => ⟨by have := HS1.out; omega, by have := HS1.out; omega⟩); (case hfresh => exact ⟨by have := HS1.out; have := HS2.out; omega, by have := HS1.out; have := HS2.out; omega⟩); (case hbase => have := HS1.out; have := HS2.out; omega); intro v4 w3 hN hb hg hat; have HN := Aside0.mk hN; have HB3 := Aside0.mk hb; have HZ3 := Aside0.mk (blk_grown HZ2.out hg (by simp)); clear hN hb hg hat HFK)
    refine (xfsLines_calls w3).mono ?_
    rintro e w4 ⟨gg, rfl, hF, hB⟩
    have HT0 : Aside0 (TreeSt l w w4 ⟨gg, 0, none⟩ v4 0) := ⟨Kd.N_below HN.out hB, blk_below HZ3.out hB, Kd.F_mono hF (fun k hk => ⟨trivial, fun he => by have := Kd.N_lt HN.out k he.symm; omega⟩), below_step HB3.out hB⟩
    clear HN HB3 HZ3 hF hB HZ2 HB2 HS1 HS2
    generalize (⟨gg, 0, none⟩ : Addr) = ga at *
    go_wp2_with fail
    go_loopw [4, 17] (fun v4 v17 w' => ∃ i : Nat, i ≤ 34 ∧ v17 = .int .i64 i ∧ Aside0 (TreeSt l w w' ga v4 i)) (fun _ v17 _ => 34 - (intOf v17).toNat)
    case atStart => exact ⟨0, by omega, rfl, HT0⟩
    case round =>
      clear HT0
      obtain ⟨i, hi, rfl, HT⟩ := hrel
      by_cases hlt : i < 34
      · obtain ⟨ad, A2, c2, e, h0, h1, h2, hl, hC⟩ := at_T52 (Kd.F_now HT.out.2.2.1) (i : Int) (Int.natCast_nonneg _) (by omega)
        cases e
        rw [Int.toNat_natCast] at h0 h1 h2
        have e0 : rd_T52 xfsGroups (i : Int) = xfsGroups.getD i z52 := by rw [rd_T52, Int.toNat_natCast]
        rw [e0] at h0 h1 h2 hl hC
        generalize hgg : xfsGroups.getD i z52 = gr at *
        replace hgg := Aside0.mk hgg
        have HL := Aside0.mk hl
        have HC := Aside0.mk hC
        clear hl hC e0
        go_upto_region 7 with (fail)
        have Hb6 := Aside0.mk (blk_new wr (.cells #[.string gr.f0, .string gr.f1, .slice A2 gr.f2.length c2] 52 (0, 0)))
        have HT1 := Aside0.mk (HT.out.below (below_alloc (Below.refl _ wr) (.cells #[.string gr.f0, .string gr.f1, .slice A2 gr.f2.length c2] 52 (0, 0))))
        have HC1 := Aside0.mk (Kd.C_alloc HC.out (.cells #[.string gr.f0, .string gr.f1, .slice A2 gr.f2.length c2] 52 (0, 0)))
        have HS6 : Aside0 (gr.f2.length ≤ 1000000) := ⟨by rw [← hgg.out]; exact Nat.le_trans (groups_len i hlt) (by decide)⟩
        clear h0 h1 h2 HT HC
        generalize wr.alloc (.cells #[.string gr.f0, .string gr.f1, .slice A2 gr.f2.length c2] 52 (0, 0)) = W1 at *
        generalize wr.heap.size = g6 at *
        have k0 : W1.cell? ⟨g6, 0, none⟩ = some (.string gr.f0) := (blk_cell Hb6.out 0).trans rfl
        go_wp2_with fail
        refine (namedX l gr.f0 A c W1 (Kd.C_below HR.out HT1.out.2.2.2) HLC.out).mono ?_
        rintro e W2 ⟨s1, A3, c3, A4, n4, c4, ok, rfl, hl3, hC3, hB⟩
        have HT2 := Aside0.mk (HT1.out.below hB)
        have Hb62 := Aside0.mk (blk_below Hb6.out hB)
        have HC2 := Aside0.mk (Kd.C_below HC1.out hB)
        have HL3 := Aside0.mk hl3
        have HC3 := Aside0.mk hC3
        clear hl3 hC3 hB k0 HT1 Hb6 HC1
        go_upto_region 8 with (fail)
        have Hb7 := Aside0.mk (blk_new W2 (.cells #[.string s1, .slice A3 (rowNums l gr.f0).length c3, .slice A4 n4 c4] 31 (0, 0)))
        have hba := below_alloc (Below.refl W2.heap.size W2) (.cells #[.string s1, .slice A3 (rowNums l gr.f0).length c3, .slice A4 n4 c4] 31 (0, 0))
        have HT3 := Aside0.mk (HT2.out.below hba)
        have Hb63 := Aside0.mk (blk_below Hb62.out hba)
        have HC23 := Aside0.mk (Kd.C_below HC2.out hba)
        have HC33 := Aside0.mk (Kd.C_below HC3.out hba)
        clear hba HT2 Hb62 HC2 HC3
        generalize W2.alloc (.cells #[.string s1, .slice A3 (rowNums l gr.f0).length c3, .slice A4 n4 c4] 31 (0, 0)) = W3 at *
        generalize W2.heap.size = g7 at *
        have m1 : W3.cell? ⟨g6, 1, none⟩ = some (.string gr.f1) := (blk_cell Hb63.out 1).trans rfl
        have m2 : W3.cell? ⟨g6, 2, none⟩ = some (.slice A2 gr.f2.length c2) := (blk_cell Hb63.out 2).trans rfl
        have n1 : W3.cell? ⟨g7, 1, none⟩ = some (.slice A3 (rowNums l gr.f0).length c3) := (blk_cell Hb7.out 1).trans rfl
        go_wp2_with fail
        refine (fillX gr.f1 A2 c2 gr.f2 A3 c3 (rowNums l gr.f0) W3 HC23.out HL.out HC33.out HL3.out HS6.out).mono ?_
        rintro e W4 ⟨A5, c5, rfl, hl5, hF5, hB⟩
        have HT4 := Aside0.mk (HT3.out.below hB)
        have HFK := Aside0.mk (k39_mkF W4 _ (fillN gr.f1 gr.f2 (rowNums l gr.f0)) hl5 hF5)
        have HS3 := Aside0.mk (And.intro hB.size HT3.out.2.2.2.size)
        have HO3 := Aside0.mk (Kd.N_lt HT3.out.1)
        have HW3 := Aside0.mk (blk_lt HT3.out.2.1)
        clear hl5 hF5 hB m1 m2 n1 HT3 Hb63 HC23 HC33 Hb7
        go_wp2_with ((with_reducible refine gate_builtin (b := .append) (xs := #[.tmp 28, .tmp 36]) rfl ?_); at_builtin; refine Kd.N_append k39 (w0 := w) w.heap.size rfl (.tmp 28) (.tmp 36) 37 39 (.agg #[(.string ⟨#[]⟩), (.int .i64 0), (.bool false), (.int .i64 0), (.int .u64 0), (.float .f64 0), (.string ⟨#[]⟩), (.slice none 0 0)]) 96 rfl Tryz.underlying37 info39 rfl (by decide) (by omega) u4 ((xfsKids l).take (i + 1)) (fillN gr.f1 gr.f2 (rowNums l gr.f0)) [.string gr.f1, .int .i64 8, .bool false, .int .i64 0, .int .u64 0, .float .f64 (0 : Nat), .string ⟨#[]⟩, .slice A5 (fillKids gr.f2 (rowNums l gr.f0)).length c5] (fun k => w.heap.size ≤ k ∧ k ≠ w.heap.size) (fun k => W3.heap.size ≤ k) rfl rfl ?aP ?aK ?aF ?aO ?aB ?aS ?aL ?_; (case aP => exact HFK.out); (case aK => exact fun k hk => ⟨⟨by have := HW3.out; omega, by have := HW3.out; omega⟩, fun he => by have := HO3.out k he.symm; omega⟩); (case aF => exact fun k hk => ⟨by have := HS3.out; have := HW3.out; omega, by have := HS3.out; have := HW3.out; omega⟩); (case aO => exact HT4.out.1); (case aB => exact HT4.out.2.2.2); (case aS => exact HT4.out.2.2.2.size); (case aL => rw [List.length_take, kids_len]; omega); intro v1 w9 ho hb hg hat; have HT5 : Aside0 (TreeSt l w w9 ga v1 (i + 1)) := ⟨(by rw [kids_take l i hlt, hgg.out]; exact ho), blk_grown HT4.out.2.1 hg (Kd.N_away HT4.out.1 (fun _ hk => hk.2)), Kd.F_after HT4.out.2.2.1 hg hat, hb⟩; clear ho hb hg hat HT4 HFK HS3 HO3 HW3)
        go_roundw
        case measure => simp [intOf]; omega
        case rel => exact ⟨i + 1, by omega, by go_num, HT5⟩
      · go_wp2_with fail
        obtain rfl : i = 34 := by omega
        have HN : Aside0 (Kd.N k39 39 wr w.heap.size (fun k => w.heap.size ≤ k ∧ k ≠ w.heap.size) u4 (xfsKids l)) := ⟨by have := HT.out.1; rwa [List.take_of_length_le (by rw [kids_len]; decide)] at this⟩
        obtain ⟨A7, c7, hu4⟩ := Kd.N_slice HN.out
        subst hu4
        have hV := Kd.N_V (base' := wr.heap.size) HN.out
        refine (spec_recordNode.calls ⟨#[]⟩ _ A7 c7 (xfsKids l) _ _ _ _ _ _ _ _ wr hV rfl).mono ?_
        rintro e w9 ⟨v9, rfl, hV9, hB9⟩
        obtain ⟨A9, c9, rfl⟩ := Kd.V_slice hV9
        have HV9 := Aside0.mk hV9
        have HW9 := Aside0.mk (blk_lt HT.out.2.1)
        have HZ9 := Aside0.mk (blk_below HT.out.2.1 hB9)
        have HB9 := Aside0.mk (below_step HT.out.2.2.2 hB9)
        clear hV hV9 hB9
        have z0 : ∀ j, w9.cell? ⟨w.heap.size, j, none⟩ = (#[.string ⟨#[]⟩, .int .i64 0, .bool false, .int .i64 0, .int .u64 0, .float .f64 0, .string ⟨#[]⟩, .slice none 0 0] : Array Value)[j]? := fun j => (blk_cell HZ9.out j)
        have f0 : ∀ j, w9.frozen? ⟨w.heap.size, j, none⟩ = false := fun j => blk_frozen HZ9.out j
        go_wp2_with fail
        refine bodyPost_ret (results_ct rfl _ _ w.heap.size 39 _ (0, 0) _ rfl (put8 HZ9.out _ _ _ _ _ _ _ _) hu39 rfl (by kernel_rfl)) rfl ?_
        refine ⟨below_put8 HB9.out (Nat.le_refl _) _ _ _ _ _ _ _ _, .inr ⟨HF.out, A9, c9, rfl, (Kd.V_reads' (V_put8 HV9.out (fun k hk => ?_) _ _ _ _ _ _ _ _)).2.2⟩⟩
        rcases hk with hk | hk
        · exact hk.2
        · have := HW9.out; omega
end Go.Proofs.YtfcalbjebomgcaaGreatDoor.X

/- The doors' records: the law of the whole function. -/
namespace Go.Proofs.YtfcalbjebomgcaaGreatDoor.X
open Go.RowKit Go.Proofs.YtfcalbjebomgcaaGreatDoorW.PrintWords Go.Proofs.YtfcalbjebomgcaaGreatDoorW.PrintLast Go.Proofs.YtfcalbjebomgcaaGreatDoorW.PrintMore Go.Proofs.YtfcalbjebomgcaaGreatDoor.Q
attribute [local go_sem] run_store_float

theorem o_load43 (a : Act) (b : Nat) (W : World) (pos : String) (s t : Nat) (v0 v1 v2 v3 v4 v5 v6 v7 : Value) (af : List Edge) (h5 : a.eval (.tmp t) = .pointer (some ⟨b, 0, none⟩)) (h : W.heap[b]? = some (.cells #[v0, v1, v2, v3, v4, v5, v6, v7] 43 (0, 0))) :
  (execOp a.eval (mkO pos (some s) (.load 43 (.tmp t)) 43 af)).run Tryz.prog W = .ok (.value (.agg #[v0, v1, v2, v3, v4, v5, v6, v7])) W := by
  have hu := Tryz.underlying43
  have h0 : W.cell? ⟨b, 0, none⟩ = some v0 := (blk_cell h 0).trans rfl
  have h1 : W.cell? ⟨b, 1, none⟩ = some v1 := (blk_cell h 1).trans rfl
  have h2 : W.cell? ⟨b, 2, none⟩ = some v2 := (blk_cell h 2).trans rfl
  have h3 : W.cell? ⟨b, 3, none⟩ = some v3 := (blk_cell h 3).trans rfl
  have h4 : W.cell? ⟨b, 4, none⟩ = some v4 := (blk_cell h 4).trans rfl
  have g5 : W.cell? ⟨b, 5, none⟩ = some v5 := (blk_cell h 5).trans rfl
  have h6 : W.cell? ⟨b, 6, none⟩ = some v6 := (blk_cell h 6).trans rfl
  have h7 : W.cell? ⟨b, 7, none⟩ = some v7 := (blk_cell h 7).trans rfl
  clear h
  simp only [execOp, mkO, h5]
  go_simp
theorem o_store43 (a : Act) (b : Nat) (W : World) (pos : String) (p t : Nat) (w0 w6 : ByteArray) (w1 w3 w4 : Int) (w2 : Bool) (w5 : Nat) (A : Option Addr) (n c : Nat) (z0 z1 z2 z3 z4 z5 z6 z7 : Value) (af : List Edge) (hp : a.eval (.tmp p) = .pointer (some ⟨b, 0, none⟩)) (ht : a.eval (.tmp t) = .agg #[.string w0, .int .i64 w1, .bool w2, .int .i64 w3, .int .u64 w4, .float .f64 w5, .string w6, .slice A n c]) (h : W.heap[b]? = some (.cells #[z0, z1, z2, z3, z4, z5, z6, z7] 43 (0, 0))) :
  (execOp a.eval (mkO pos none (.store 43 (.tmp p) (.tmp t)) 0 af)).run Tryz.prog W = .ok .skip ((((((((W.setCell ⟨b, 0, none⟩ (.string w0)).setCell ⟨b, 1, none⟩ (.int .i64 w1)).setCell ⟨b, 2, none⟩ (.bool w2)).setCell ⟨b, 3, none⟩ (.int .i64 w3)).setCell ⟨b, 4, none⟩ (.int .u64 w4)).setCell ⟨b, 5, none⟩ (.float .f64 w5)).setCell ⟨b, 6, none⟩ (.string w6)).setCell ⟨b, 7, none⟩ (.slice A n c)) := by
  have hu := Tryz.underlying43
  have k0 : W.cell? ⟨b, 0, none⟩ = some z0 := (blk_cell h 0).trans rfl
  have f0 := blk_frozen h 0
  have k1 : W.cell? ⟨b, 1, none⟩ = some z1 := (blk_cell h 1).trans rfl
  have f1 := blk_frozen h 1
  have k2 : W.cell? ⟨b, 2, none⟩ = some z2 := (blk_cell h 2).trans rfl
  have f2 := blk_frozen h 2
  have k3 : W.cell? ⟨b, 3, none⟩ = some z3 := (blk_cell h 3).trans rfl
  have f3 := blk_frozen h 3
  have k4 : W.cell? ⟨b, 4, none⟩ = some z4 := (blk_cell h 4).trans rfl
  have f4 := blk_frozen h 4
  have k5 : W.cell? ⟨b, 5, none⟩ = some z5 := (blk_cell h 5).trans rfl
  have f5 := blk_frozen h 5
  have k6 : W.cell? ⟨b, 6, none⟩ = some z6 := (blk_cell h 6).trans rfl
  have f6 := blk_frozen h 6
  have k7 : W.cell? ⟨b, 7, none⟩ = some z7 := (blk_cell h 7).trans rfl
  have f7 := blk_frozen h 7
  clear h
  simp only [execOp, mkO, hp, ht]
  go_simp

/-- What a record's function answers: its name, its numbers as nodes, in new memory. -/
def RecPost (w : World) (name : ByteArray) (xs : List S43) : Ending → World → Prop := fun e w' => ∃ A c, e = .returned (.agg #[.string name, .int .i64 8, .bool false, .int .i64 0, .int .u64 0, .float .f64 0, .string ⟨#[]⟩, .slice A xs.length c]) ∧ xs.length ≤ c ∧ Kd.F k43 w' (fun k => w.heap.size ≤ k) A xs.length xs ∧ Below w.heap.size w w'

theorem fields_wp (wide : Bool) (T : TypeId) (pl : String) (fn : Func) (hres : fn.results = #[.cell 4 43]) (w : World) (name : ByteArray) (args : Array Value) : ∀ (fs : List (ByteArray × String)) (nums : List Int) (r j s : Nat) (a : Act) (W : World) (v : Value) (xs : List S43),
    nums.length = fs.length → BSt w T name args W v xs → xs.length + fs.length ≤ 1000 → s + (if wide then 8 else 9) * fs.length + 1 ≤ a.tmps.size → 5 < s →
    (∀ i, i < fs.length → FieldIs T (j + i) (if wide then 35 else 66)) → (∀ i n, nums[i]? = some n → args[j + i]? = some (.int (if wide then .u64 else .u32) n) ∧ (wide = false → 0 ≤ n ∧ n < 4294967296)) →
    a.eval (.tmp 3) = .pointer (some ⟨w.heap.size, 0, none⟩) → a.eval (.tmp 4) = .pointer (some ⟨w.heap.size + 1, 0, none⟩) → a.eval (.tmp 5) = .pointer (some ⟨w.heap.size + 2, 0, none⟩) → a.defers = [] →
    (fieldsCode wide T pl fs r j s).wp Tryz.prog (bodyPost Tryz.prog fn (RecPost w name (xs ++ (fs.zip nums).map (fun p => uintM p.1.1 p.2)))) a W
  | [], nums, r, j, s, a, W, v, xs, hl, hB, hlen, hsz, hs, hT, hn, h3, h4, h5, hd => by
    obtain ⟨A, c, rfl⟩ := Kd.N_slice hB.1
    refine wp_seq (wp_region_lit (l := [mkO pl (some s) (.load 43 (.tmp 5)) 43 [], mkO pl none (.store 43 (.tmp 4) (.tmp s)) 0 [⟨0, .data⟩, ⟨0, .phase⟩]]) ?_)
    refine Kd.event_run rfl (o_load43 _ (w.heap.size + 2) _ _ _ _ _ _ _ _ _ _ _ _ _ h5 hB.2.2.2.1) ?_
    refine event_skip rfl rfl (o_store43 _ (w.heap.size + 1) _ _ _ _ _ _ _ _ _ _ _ _ _ _ _ _ _ _ _ _ _ _ _ (by simp only [mkO]; rw [ev_other (by omega)]; exact h4) (by simp only [mkO]; rw [ev_same (by omega)]) hB.2.2.1) ?_
    refine wp_ret ?_
    refine bodyPost_ret (results_cell_row hres _ _ (w.heap.size + 1) 43 _ (0, 0) _ ?_ (put8 hB.2.2.1 _ _ _ _ _ _ _ _) Tryz.underlying43 rfl (by kernel_rfl)) hd ?_
    · have := h4
      simp only [mkO]
      rw [show ∀ (b : Act), b.tmps.getD 4 undef = b.eval (.tmp 4) from fun _ => rfl, ev_other (by omega)]
      exact h4
    · have hV := V_put8 (Kd.N_V (base' := W.heap.size) hB.1) (fun k hk => (by show k ≠ w.heap.size + 1; omega)) (.string name) (.int .i64 8) (.bool false) (.int .i64 0) (.int .u64 0) (.float .f64 0) (.string ⟨#[]⟩) (.slice A xs.length c)
      simp only [List.zip_nil_left, List.map_nil, List.append_nil]
      exact ⟨A, c, rfl, (Kd.V_at hV).2.1, Kd.F_mono (Kd.V_at hV).2.2 (fun k hk => by omega), below_put8 hB.2.2.2.2 (by omega) _ _ _ _ _ _ _ _⟩
  | (fname, pos) :: fs, [], r, j, s, a, W, v, xs, hl, hB, hlen, hsz, hs, hT, hn, h3, h4, h5, hd => by simp at hl
  | (fname, pos) :: fs, n :: nums, r, j, s, a, W, v, xs, hl, hB, hlen, hsz, hs, hT, hn, h3, h4, h5, hd => by
    have hn0 := hn 0 n rfl
    have hT0 := hT 0 (Nat.succ_pos _)
    have hl' : nums.length = fs.length := by simpa using hl
    have hlen' : xs.length + (fs.length + 1) ≤ 1000 := hlen
    rw [List.length_cons] at hsz
    have step : ∀ a' W' v' s', (∀ t, t < s → a'.eval (.tmp t) = a.eval (.tmp t)) → a'.tmps.size = a.tmps.size → a'.defers = a.defers → BSt w T name args W' v' (xs ++ [uintM fname n]) → s ≤ s' → s' + (if wide then 8 else 9) * fs.length + 1 ≤ a.tmps.size →
        (fieldsCode wide T pl fs (r + 1) (j + 1) s').wp Tryz.prog (bodyPost Tryz.prog fn (RecPost w name (xs ++ (((fname, pos) :: fs).zip (n :: nums)).map (fun p => uintM p.1.1 p.2)))) a' W' := by
      intro a' W' v' s' e1 e2 e3 hB' hss hsz'
      have h := fields_wp wide T pl fn hres w name args fs nums (r + 1) (j + 1) s' a' W' v' (xs ++ [uintM fname n]) hl' hB' (by simp only [List.length_append, List.length_cons, List.length_nil]; omega) (by rw [e2]; exact hsz') (by omega) (fun i hi => by have := hT (i + 1) (by simpa using hi); rwa [show j + (i + 1) = j + 1 + i by omega] at this) (fun i m hm => by have := hn (i + 1) m hm; rwa [show j + (i + 1) = j + 1 + i by omega] at this) (by rw [e1 3 (by omega)]; exact h3) (by rw [e1 4 (by omega)]; exact h4) (by rw [e1 5 (by omega)]; exact h5) (by rw [e3]; exact hd)
      simpa using h
    cases wide
    · refine field32 (fname := fname) (n := n) hB (by omega) ?_ hs hT0 hn0.1 (hn0.2 rfl) h3 h5 (fun a' W' v' e1 e2 e3 hB' => step a' W' v' (s + 9) e1 e2 e3 hB' (by omega) ?_)
      · simp at hsz; omega
      · simp at hsz ⊢; omega
    · refine field64 (fname := fname) (n := n) hB (by omega) ?_ hs hT0 hn0.1 h3 h5 (fun a' W' v' e1 e2 e3 hB' => step a' W' v' (s + 8) e1 e2 e3 hB' (by omega) ?_)
      · simp at hsz; omega
      · simp at hsz ⊢; omega
end Go.Proofs.YtfcalbjebomgcaaGreatDoor.X

/- The doors' records: what each function answers. -/
namespace Go.Proofs.YtfcalbjebomgcaaGreatDoor.X
open Go.RowKit Go.Proofs.YtfcalbjebomgcaaGreatDoorW.PrintWords Go.Proofs.YtfcalbjebomgcaaGreatDoorW.PrintLast Go.Proofs.YtfcalbjebomgcaaGreatDoorW.PrintMore Go.Proofs.YtfcalbjebomgcaaGreatDoor.Q
attribute [local go_sem] run_store_float

theorem o_box (a : Act) (W : World) (pos : String) (s t : Nat) (T : TypeId) (args : Array Value) (af : List Edge) (h : a.eval (.tmp t) = .agg args) :
  (execOp a.eval (mkO pos (some s) (.box T (.tmp t)) 0 af)).run Tryz.prog W = .ok (.value (.pointer (some ⟨W.heap.size, 0, none⟩))) (W.alloc (.cells args T)) := by
  simp only [execOp, mkO, h]
  go_simp
theorem o_alloc43 (a : Act) (W : World) (pos : String) (s : Nat) (af : List Edge) :
  (execOp a.eval (mkO pos (some s) (.alloc 43) 0 af)).run Tryz.prog W = .ok (.value (.pointer (some ⟨W.heap.size, 0, none⟩))) (W.alloc (.cells #[.string ⟨#[]⟩, .int .i64 0, .bool false, .int .i64 0, .int .u64 0, .float .f64 0, .string ⟨#[]⟩, .slice none 0 0] 43)) := by
  have hu := Tryz.underlying43
  simp only [execOp, mkO]
  go_simp
theorem o_move (a : Act) (W : World) (pos : String) (s t ty : Nat) (v : Value) (af : List Edge) (h : a.eval (.tmp t) = v) :
  (execOp a.eval (mkO pos (some s) (.move (.tmp t)) ty af)).run Tryz.prog W = .ok (.value v) W := by
  simp only [execOp, mkO, h]
  go_simp
theorem o_build8 (a : Act) (W : World) (pos : String) (s t : Nat) (name : ByteArray) (af : List Edge) (h : a.eval (.tmp t) = .string name) :
  (execOp a.eval (mkO pos (some s) (.build 43 #[(0, .tmp t), (1, .const (.int .i64 8))]) 43 af)).run Tryz.prog W = .ok (.value (.agg #[.string name, .int .i64 8, .bool false, .int .i64 0, .int .u64 0, .float .f64 0, .string ⟨#[]⟩, .slice none 0 0])) W := by
  have hu := Tryz.underlying43
  have h' : a.tmps[t]?.getD undef = .string name := by rw [← h]; simp [Act.eval]
  simp only [execOp, mkO]
  go_simp

theorem far8 {W : World} {b g : Nat} (h : g ≠ b) (v0 v1 v2 v3 v4 v5 v6 v7 : Value) : ((((((((W.setCell ⟨b, 0, none⟩ v0).setCell ⟨b, 1, none⟩ v1).setCell ⟨b, 2, none⟩ v2).setCell ⟨b, 3, none⟩ v3).setCell ⟨b, 4, none⟩ v4).setCell ⟨b, 5, none⟩ v5).setCell ⟨b, 6, none⟩ v6).setCell ⟨b, 7, none⟩ v7).heap[g]? = W.heap[g]? :=
  (Below.heap_setCell _ _ _ _ h).trans ((Below.heap_setCell _ _ _ _ h).trans ((Below.heap_setCell _ _ _ _ h).trans ((Below.heap_setCell _ _ _ _ h).trans ((Below.heap_setCell _ _ _ _ h).trans ((Below.heap_setCell _ _ _ _ h).trans ((Below.heap_setCell _ _ _ _ h).trans (Below.heap_setCell _ _ _ _ h)))))))

theorem builder_calls (wide : Bool) (T : TypeId) (p0 p1 pl : String) (fs : List (ByteArray × String)) (F : FuncId) (fn : Func) (hF : Tryz.prog.funcs[F]? = some fn) (hb : fn.body = some (builderCode wide T p0 p1 pl fs)) (hres : fn.results = #[.cell 4 43]) (hnt : 8 + (if wide then 8 else 9) * fs.length + 1 ≤ fn.ntmps) (hfs : fs.length ≤ 1000)
    (hT : ∀ i, i < fs.length → FieldIs T i (if wide then 35 else 66)) (name : ByteArray) (nums : List Int) (hl : nums.length = fs.length) (hw : wide = false → ∀ n ∈ nums, 0 ≤ n ∧ n < 4294967296) (w : World) :
    Calls Tryz.prog F #[.string name, .agg (nums.map (Value.int (if wide then .u64 else .u32))).toArray] w (RecPost w name ((fs.zip nums).map (fun p => uintM p.1.1 p.2))) := by
  refine calls_of_wp hF hb ?_
  obtain ⟨args, hargs⟩ : ∃ args, args = (nums.map (Value.int (if wide then .u64 else .u32))).toArray := ⟨_, rfl⟩
  rw [← hargs]
  obtain ⟨a, ha⟩ : ∃ a : Act, a = { tmps := #[.string name, .agg args] ++ Array.replicate (fn.ntmps - (#[.string name, .agg args] : Array Value).size) undef, defers := [] } := ⟨_, rfl⟩
  rw [← ha]
  have e0 : a.eval (.tmp 0) = .string name := by rw [ha]; simp only [Act.eval, Array.getD_eq_getD_getElem?]; rw [Array.getElem?_append_left (by simp)]; rfl
  have e1 : a.eval (.tmp 1) = .agg args := by rw [ha]; simp only [Act.eval, Array.getD_eq_getD_getElem?]; rw [Array.getElem?_append_left (by simp)]; rfl
  have hd : a.defers = [] := by rw [ha]
  have hsz : a.tmps.size = fn.ntmps := by rw [ha]; simp; omega
  clear ha
  have hs9 : 9 ≤ a.tmps.size := by rw [hsz]; cases wide <;> simp at hnt <;> omega
  refine wp_seq (wp_region_lit (l := [mkO p0 (some 3) (.box T (.tmp 1)) 0 [], mkO p0 (some 4) (.alloc 43) 0 []]) ?_)
  refine Kd.event_run rfl (o_box _ _ _ _ _ _ args _ e1) ?_
  refine Kd.event_run rfl (o_alloc43 _ _ _ _ _) ?_
  refine wp_seq (wp_region_lit (l := [mkO p1 (some 6) (.move (.tmp 0)) 9 [], mkO p1 (some 7) (.build 43 #[(0, .tmp 6), (1, .const (.int .i64 8))]) 43 [⟨0, .data⟩], mkO p1 (some 5) (.alloc 43) 0 [], mkO p1 none (.store 43 (.tmp 5) (.tmp 7)) 0 [⟨2, .data⟩, ⟨1, .data⟩, ⟨0, .phase⟩, ⟨1, .phase⟩, ⟨2, .phase⟩]]) ?_)
  refine Kd.event_run rfl (o_move _ _ _ _ _ _ (.string name) _ (by simp only [mkO]; rw [ev_other (by omega), ev_other (by omega)]; exact e0)) ?_
  refine Kd.event_run rfl (o_build8 _ _ _ _ _ name _ (by simp only [mkO]; rw [ev_same (by simp only [size_put]; omega)])) ?_
  refine Kd.event_run rfl (o_alloc43 _ _ _ _ _) ?_
  have s1 : (w.alloc (.cells args T)).heap.size = w.heap.size + 1 := World.size_alloc _ _
  have s2 : ((w.alloc (.cells args T)).alloc (.cells #[.string ⟨#[]⟩, .int .i64 0, .bool false, .int .i64 0, .int .u64 0, .float .f64 0, .string ⟨#[]⟩, .slice none 0 0] 43)).heap.size = w.heap.size + 2 := by rw [World.size_alloc, s1]
  have B := below_alloc (below_alloc (below_alloc (Below.refl w.heap.size w) (.cells args T)) (.cells #[.string ⟨#[]⟩, .int .i64 0, .bool false, .int .i64 0, .int .u64 0, .float .f64 0, .string ⟨#[]⟩, .slice none 0 0] 43)) (.cells #[.string ⟨#[]⟩, .int .i64 0, .bool false, .int .i64 0, .int .u64 0, .float .f64 0, .string ⟨#[]⟩, .slice none 0 0] 43)
  have b0 := blk_alloc (blk_alloc (blk_new w (.cells args T)) (.cells #[.string ⟨#[]⟩, .int .i64 0, .bool false, .int .i64 0, .int .u64 0, .float .f64 0, .string ⟨#[]⟩, .slice none 0 0] 43)) (.cells #[.string ⟨#[]⟩, .int .i64 0, .bool false, .int .i64 0, .int .u64 0, .float .f64 0, .string ⟨#[]⟩, .slice none 0 0] 43)
  have b1 := blk_alloc (blk_new (w.alloc (.cells args T)) (.cells #[.string ⟨#[]⟩, .int .i64 0, .bool false, .int .i64 0, .int .u64 0, .float .f64 0, .string ⟨#[]⟩, .slice none 0 0] 43)) (.cells #[.string ⟨#[]⟩, .int .i64 0, .bool false, .int .i64 0, .int .u64 0, .float .f64 0, .string ⟨#[]⟩, .slice none 0 0] 43)
  have b2 := blk_new ((w.alloc (.cells args T)).alloc (.cells #[.string ⟨#[]⟩, .int .i64 0, .bool false, .int .i64 0, .int .u64 0, .float .f64 0, .string ⟨#[]⟩, .slice none 0 0] 43)) (.cells #[.string ⟨#[]⟩, .int .i64 0, .bool false, .int .i64 0, .int .u64 0, .float .f64 0, .string ⟨#[]⟩, .slice none 0 0] 43)
  rw [s1] at b1
  rw [s2] at b2
  refine event_skip rfl rfl (o_store43 _ (w.heap.size + 2) _ _ _ _ name ⟨#[]⟩ 8 0 0 false 0 none 0 0 _ _ _ _ _ _ _ _ _ (by simp only [mkO]; rw [ev_same (by simp only [size_put]; omega), s2]) (by simp only [mkO]; rw [ev_other (by omega), ev_same (by simp only [size_put]; omega)]) b2) ?_
  have h := fields_wp wide T pl fn hres w name args fs nums 2 0 8
  refine (h _ _ (.slice none 0 0) [] hl ⟨Kd.N_nil _ _ _ _ _, ?_, ?_, ?_, ?_⟩ (by simp; omega) ?_ (by omega) (fun i hi => by rw [Nat.zero_add]; exact hT i hi) (fun i n hn => ⟨?_, fun hwf => hw hwf n (List.mem_of_getElem? hn)⟩) ?_ ?_ ?_ hd)
  · exact (far8 (by omega) _ _ _ _ _ _ _ _).trans b0
  · exact (far8 (by omega) _ _ _ _ _ _ _ _).trans b1
  · exact put8 b2 _ _ _ _ _ _ _ _
  · exact below_put8 B (by omega) _ _ _ _ _ _ _ _
  · simp only [mkO, size_put]; rw [hsz]; exact hnt
  · rw [Nat.zero_add, hargs]
    simp [hn]
  · simp only [mkO]; rw [ev_other (by omega), ev_other (by omega), ev_other (by omega), ev_other (by omega), ev_same (by omega)]
  · simp only [mkO]; rw [ev_other (by omega), ev_other (by omega), ev_other (by omega), ev_same (by simp only [size_put]; omega), s1]
  · simp only [mkO]; rw [ev_same (by simp only [size_put]; omega), s2]
end Go.Proofs.YtfcalbjebomgcaaGreatDoor.X
