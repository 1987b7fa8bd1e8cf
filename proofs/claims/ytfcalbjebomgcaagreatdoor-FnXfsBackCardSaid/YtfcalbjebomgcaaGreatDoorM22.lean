/- toNode, plainly: the same tree in the reference's type. -/
import Derived.Test.YtfcalbjebomgcaaGreatDoorM21
import Derived.Test.YtfcalbjebomgcaaGreatDoorM20
set_option linter.unusedVariables false
set_option linter.unusedSimpArgs false
namespace Go.Proofs.YtfcalbjebomgcaaGreatDoor.X
open Go.RowKit Go.Proofs.YtfcalbjebomgcaaGreatDoorW.PrintWords Go.Proofs.YtfcalbjebomgcaaGreatDoorW.PrintLast Go.Proofs.YtfcalbjebomgcaaGreatDoorW.PrintMore Go.Proofs.YtfcalbjebomgcaaGreatDoor.Q

/-- toNode makes y of x. -/
def Cv (x : S43) (y : S39) : Prop := ∃ k, laws_toNode.f k x.f0 x.f1 x.f2 x.f3 x.f4 x.f5 x.f6 x.f7 = some (y.f0, y.f1, y.f2, y.f3, y.f4, y.f5, y.f6, y.f7)
theorem toNode_up {a0 : ByteArray} {a1 : Int} {a2 : Bool} {a3 a4 : Int} {a5 : Nat} {a6 : ByteArray} {a7 : List S43} {r : ByteArray × Int × Bool × Int × Int × Nat × ByteArray × (List S39)} : ∀ m k, laws_toNode.f k a0 a1 a2 a3 a4 a5 a6 a7 = some r → laws_toNode.f (k + m) a0 a1 a2 a3 a4 a5 a6 a7 = some r
  | 0, k, h => h
  | m + 1, k, h => laws_toNode.mono _ _ _ _ _ _ _ _ (k + m) r (toNode_up m k h)
theorem toNode_up0 {x : List S43} {y z : Int} {a0 : ByteArray} {a1 : Int} {a2 : Bool} {a3 a4 : Int} {a5 : Nat} {a6 : ByteArray} {a7 : List S39} {r : ByteArray × Int × Bool × Int × Int × Nat × ByteArray × (List S39)} : ∀ m k, laws_toNode.l0 k x y z a0 a1 a2 a3 a4 a5 a6 a7 = some r → laws_toNode.l0 (k + m) x y z a0 a1 a2 a3 a4 a5 a6 a7 = some r
  | 0, k, h => h
  | m + 1, k, h => (laws_toNode.mono_l (k + m)).2 _ _ _ _ _ _ _ _ _ _ _ r (toNode_up0 m k h)
theorem toNode_l0 (l : List S43) (ys : List S39) (hy : ys.length = l.length) (hl : l.length ≤ 1000000) (h : ∀ i, i < l.length → Cv (l.getD i z43) (ys.getD i z39)) (a0 : ByteArray) (a1 : Int) (a2 : Bool) (a3 a4 : Int) (a5 : Nat) (a6 : ByteArray) : ∀ m i, i + m = l.length →
    ∃ k, laws_toNode.l0 k l (l.length : Int) (i : Int) a0 a1 a2 a3 a4 a5 a6 (ys.take i) = some (a0, a1, a2, a3, a4, a5, a6, ys)
  | 0, i, e => ⟨1, by unfold laws_toNode.l0; rw [if_neg (by omega), List.take_of_length_le (by omega)]⟩
  | m + 1, i, e => by
    obtain ⟨k, hk⟩ := toNode_l0 l ys hy hl h a0 a1 a2 a3 a4 a5 a6 m (i + 1) (by omega)
    have hi : i < l.length := by omega
    obtain ⟨k2, hk2⟩ := h i hi
    have e1 : rd_T43 l (i : Int) = l.getD i z43 := by rw [rd_T43, Int.toNat_natCast]
    refine ⟨k + k2 + 1, ?_⟩
    have hk' := toNode_up0 k2 k hk
    have hk2' := toNode_up k k2 hk2
    unfold laws_toNode.l0
    rw [if_pos (by omega), if_pos (by omega), if_pos (by omega), e1, Nat.add_comm k k2, hk2']
    simp only [Option.bind_some]
    rw [if_pos (by rw [List.length_take]; omega), show wrap64 ((i : Int) + 1) = ((i + 1 : Nat) : Int) by unfold wrap64; omega]
    rw [List.take_succ_eq_append_getElem (by omega : i < ys.length), Nat.add_comm k k2] at hk'
    have e2 : ys.getD i z39 = ys[i] := by rw [List.getD_eq_getElem?_getD, List.getElem?_eq_getElem (by omega)]; rfl
    have e3 : ∀ y : S39, (⟨y.f0, y.f1, y.f2, y.f3, y.f4, y.f5, y.f6, y.f7⟩ : S39) = y := fun y => by cases y; rfl
    rw [e2, e3]
    exact hk'
theorem Cv_node (x : S43) (ys : List S39) (hy : ys.length = x.f7.length) (hl : x.f7.length ≤ 1000000) (h : ∀ i, i < x.f7.length → Cv (x.f7.getD i z43) (ys.getD i z39)) : Cv x ⟨x.f0, x.f1, x.f2, x.f3, x.f4, x.f5, x.f6, ys⟩ := by
  obtain ⟨k, hk⟩ := toNode_l0 x.f7 ys hy hl h x.f0 x.f1 x.f2 x.f3 x.f4 x.f5 x.f6 x.f7.length 0 (by omega)
  exact ⟨k + 1, by unfold laws_toNode.f; exact hk⟩
end Go.Proofs.YtfcalbjebomgcaaGreatDoor.X

/- What the door reads is the reference's tree: the plain law. -/
namespace Go.Proofs.YtfcalbjebomgcaaGreatDoor.X
open Go.RowKit Go.Proofs.YtfcalbjebomgcaaGreatDoorW.PrintWords Go.Proofs.YtfcalbjebomgcaaGreatDoorW.PrintLast Go.Proofs.YtfcalbjebomgcaaGreatDoorW.PrintMore Go.Proofs.YtfcalbjebomgcaaGreatDoor.Q

def rfOf : List (List (ByteArray × String)) := [rf78, rf79, rf80, rf79, rf81, rf82, rf83, rf84, rf85, rf86, rf87, rf88, rf89, rf90, rf91, rf92, rf93, rf94, rf95, rf96, rf97, rf98, rf99, rf100, rf101, rf102, rf103, rf104, rf105, rf106, rf107, rf108, rf109, rf110]
theorem stat_nodes (M : Nat → List Int) : (statLns M).map (fun x => recM x.name x.ys) = (List.range 34).map (fun i => recM (xfsGroups.getD i z52).f1 (((rfOf.getD i []).zip (M i)).map (fun p => uintM p.1.1 p.2))) := by kernel_rfl
theorem rf_names : ∀ i, i < 34 → (rfOf.getD i []).map (·.1) = (xfsGroups.getD i z52).f2 := by
  have h : ∀ i, i < 34 → ((rfOf.getD i []).map (·.1)).map (·.data.toList) = ((xfsGroups.getD i z52).f2).map (·.data.toList) := by decide +kernel
  intro i hi
  have := h i hi
  have hinj : ∀ (a b : List ByteArray), a.map (·.data.toList) = b.map (·.data.toList) → a = b := by
    intro a
    induction a with
    | nil => intro b h; cases b with | nil => rfl | cons _ _ => cases h
    | cons x a ih =>
      intro b h
      cases b with
      | nil => cases h
      | cons y b =>
        simp only [List.map_cons, List.cons.injEq] at h
        rw [ba_ext h.1, ih b h.2]
  exact hinj _ _ this
theorem Cv_uint (name : ByteArray) (n : Int) : Cv (uintM name n) (uintN name n) :=
  Cv_node (uintM name n) [] rfl (by simp [uintM]) (fun i hi => by simp [uintM] at hi)
theorem Cv_text (name s : ByteArray) : Cv (textM name s) (textN name s) :=
  Cv_node (textM name s) [] rfl (by simp [textM]) (fun i hi => by simp [textM] at hi)
theorem Cv_rec (name : ByteArray) (kids : List S43) (ys : List S39) (hy : ys.length = kids.length) (hl : kids.length ≤ 1000000) (h : ∀ i, i < kids.length → Cv (kids.getD i z43) (ys.getD i z39)) : Cv (recM name kids) (recN name ys) :=
  Cv_node (recM name kids) ys hy hl h
theorem Cv_fill (name : ByteArray) (rf : List (ByteArray × String)) (fields : List ByteArray) (nums vals : List Int) (hf : rf.map (·.1) = fields) (hl : vals.length = fields.length) (h1000 : fields.length ≤ 1000) (hv : ∀ j, j < fields.length → vals.getD j 0 = nums.getD j 0) :
    Cv (recM name ((rf.zip vals).map (fun p => uintM p.1.1 p.2))) (fillN name fields nums) := by
  have hrl : rf.length = fields.length := by rw [← hf, List.length_map]
  refine Cv_rec _ _ _ (by simp [fillKids]; omega) (by simp; omega) (fun i hi => ?_)
  have hi2 : i < fields.length := by simp at hi; omega
  have e1 : ((rf.zip vals).map (fun p => uintM p.1.1 p.2)).getD i z43 = uintM (fields.getD i ⟨#[]⟩) (nums.getD i 0) := by
    rw [List.getD_eq_getElem?_getD, List.getElem?_eq_getElem hi]
    simp only [Option.getD_some, List.getElem_map, List.getElem_zip]
    rw [← hv i hi2, ← hf]
    congr 1
    · rw [List.getD_eq_getElem?_getD, List.getElem?_eq_getElem (by simp; omega)]; simp
    · rw [List.getD_eq_getElem?_getD, List.getElem?_eq_getElem (by omega)]; rfl
  have e2 : (fillKids fields nums).getD i z39 = uintN (fields.getD i ⟨#[]⟩) (nums.getD i 0) := by
    rw [List.getD_eq_getElem?_getD, List.getElem?_eq_getElem (by simp [fillKids]; exact hi2)]
    simp [fillKids]
  rw [e1, e2]
  exact Cv_uint _ _
/-- Where a group's counters come from. -/
theorem fold_at (i : Nat) : ∀ (l : List S31) (M : Nat → List Int), (∀ a, a < l.length → ∀ b, b < a → gi (l.getD a z31).f0 ≠ gi (l.getD b z31).f0) →
    (l.foldl (fun M r => upd M (gi r.f0) r.f1) M) i = match l.find? (fun r => gi r.f0 == i) with | some r => r.f1 | none => M i
  | [], M, _ => rfl
  | r :: l, M, h => by
    have ih := fold_at i l (upd M (gi r.f0) r.f1) (fun a ha b hb => by have := h (a + 1) (by simp; omega) (b + 1) (by omega); simpa using this)
    rw [List.foldl_cons, ih]
    cases he : (gi r.f0 == i) with
    | true =>
      have hri : gi r.f0 = i := beq_iff_eq.1 he
      have hnone : l.find? (fun r => gi r.f0 == i) = none := by
        rw [List.find?_eq_none]
        intro x hx hxi
        obtain ⟨a, ha, hax⟩ := List.getElem_of_mem hx
        have := h (a + 1) (by simp; omega) 0 (by omega)
        apply this
        simp only [List.getD_cons_succ, List.getD_cons_zero]
        rw [List.getD_eq_getElem?_getD, List.getElem?_eq_getElem ha, hax]
        show gi x.f0 = gi r.f0
        rw [beq_iff_eq.1 hxi, hri]
      rw [hnone]
      simp only [List.find?_cons, he]
      simp [upd, hri]
    | false =>
      simp only [List.find?_cons, he]
      cases l.find? (fun r => gi r.f0 == i) with
      | some x => rfl
      | none =>
        show upd M (gi r.f0) r.f1 i = M i
        unfold upd
        rw [if_neg (fun hh => by rw [hh] at he; simp at he)]
theorem group_names : ∀ i, i < 34 → gi (xfsGroups.getD i z52).f0 = i := fun i hi => by
  have h := route_all i hi
  unfold routeB at h
  simp only [Bool.and_eq_true, beq_iff_eq] at h
  exact h.1.2
theorem fine_gi (r : S31) (hr : fineRow r = true) (i : Nat) (hi : i < 34) : (gi r.f0 == i) = (r.f0.toList == (xfsGroups.getD i z52).f0.toList) := by
  obtain ⟨k, hk, hgk, hnk, _⟩ := row_group r hr
  rw [← hnk, group_names k hk]
  cases he : (k == i) with
  | true => rw [beq_iff_eq.1 he]; simp
  | false =>
    cases h2 : ((xfsGroups.getD k z52).f0.toList == (xfsGroups.getD i z52).f0.toList) with
    | false => rfl
    | true =>
      have h3 : (xfsGroups.getD k z52).f0 = (xfsGroups.getD i z52).f0 := ba_ext (by have := beq_iff_eq.1 h2; rw [ByteArray.toList_eq, ByteArray.toList_eq] at this; exact this)
      have h4 := group_names k hk
      rw [h3, group_names i hi] at h4
      rw [h4] at he
      simp at he
theorem find_congr {α : Type} {p q : α → Bool} : ∀ (l : List α), (∀ x ∈ l, p x = q x) → l.find? p = l.find? q
  | [], _ => rfl
  | x :: l, h => by
    simp only [List.find?_cons]
    rw [h x List.mem_cons_self, find_congr l (fun y hy => h y (List.mem_cons_of_mem _ hy))]
theorem Mof_at (l : List S31) (hF : FineRows l) (i : Nat) (hi : i < 34) : (Mof l i).length = (xfsGroups.getD i z52).f2.length ∧ ∀ j, (Mof l i).getD j 0 = (rowNums l (xfsGroups.getD i z52).f0).getD j 0 := by
  have hfm : ∀ r ∈ l, fineRow r = true := fun r hr => by
    obtain ⟨a, ha, hax⟩ := List.getElem_of_mem hr
    have := hF.1 a ha
    rw [List.getD_eq_getElem?_getD, List.getElem?_eq_getElem ha, hax] at this
    exact this
  have hlen := Mof_ok l hfm i hi
  have hg := route_all i hi
  unfold routeB at hg
  simp only [Bool.and_eq_true] at hg
  have hlen2 := beq_iff_eq.1 hg.1.1.1.1
  refine ⟨by rw [hlen, hlen2], ?_⟩
  have hat := fold_at i l M0 (fun a ha b hb he => ?_)
  · have hfind : l.find? (fun r => gi r.f0 == i) = l.find? (fun r => r.f0.toList == (xfsGroups.getD i z52).f0.toList) := find_congr l (fun r hr => fine_gi r (hfm r hr) i hi)
    rw [hfind] at hat
    intro j
    show (l.foldl (fun M r => upd M (gi r.f0) r.f1) M0 i).getD j 0 = _
    rw [hat]
    unfold rowNums rowOf
    cases l.find? (fun r => r.f0.toList == (xfsGroups.getD i z52).f0.toList) with
    | some r => rfl
    | none =>
      show (M0 i).getD j 0 = ([] : List Int).getD j 0
      rw [M0, List.getD_eq_getElem?_getD, List.getElem?_replicate]
      split <;> rfl
  · refine hF.2 a ha b hb ?_
    have ra := hF.1 a ha
    have rb := hF.1 b (by omega)
    obtain ⟨k, hk, hgk, hnk, _⟩ := row_group _ ra
    obtain ⟨k2, hk2, hgk2, hnk2, _⟩ := row_group _ rb
    have : k = k2 := by rw [← hgk, ← hgk2]; exact he
    rw [← hnk, ← hnk2, this]
theorem xfs_nodes (l : List S31) (hF : FineRows l) : (xfsKids l).length = (xfsNodes l).length ∧ (xfsNodes l).length = 35 ∧ ∀ i, i < (xfsNodes l).length → Cv ((xfsNodes l).getD i z43) ((xfsKids l).getD i z39) := by
  have hlenG : xfsGroups.length = 34 := rfl
  have hK : xfsKids l = textN ⟨#[78, 97, 109, 101]⟩ ⟨#[]⟩ :: (List.range 34).map (fun i => fillN (xfsGroups.getD i z52).f1 (xfsGroups.getD i z52).f2 (rowNums l (xfsGroups.getD i z52).f0)) := by
    unfold xfsKids
    congr 1
  have hN : xfsNodes l = textM ⟨#[78, 97, 109, 101]⟩ ⟨#[]⟩ :: (List.range 34).map (fun i => recM (xfsGroups.getD i z52).f1 (((rfOf.getD i []).zip (Mof l i)).map (fun p => uintM p.1.1 p.2))) := by
    unfold xfsNodes
    rw [stat_nodes]
  rw [hK, hN]
  refine ⟨by simp, by simp, fun i hi => ?_⟩
  cases i with
  | zero => exact Cv_text _ _
  | succ i =>
    have hi34 : i < 34 := by simp at hi; omega
    simp only [List.getD_cons_succ]
    rw [List.getD_eq_getElem?_getD, List.getElem?_eq_getElem (by simp; exact hi34), List.getD_eq_getElem?_getD, List.getElem?_eq_getElem (by simp; exact hi34)]
    simp only [List.getElem_map, List.getElem_range, Option.getD_some]
    obtain ⟨h1, h2⟩ := Mof_at l hF i hi34
    exact Cv_fill _ _ _ _ _ (rf_names i hi34) h1 (Nat.le_trans (groups_len i hi34) (by decide)) (fun j _ => h2 j)
end Go.Proofs.YtfcalbjebomgcaaGreatDoor.X
