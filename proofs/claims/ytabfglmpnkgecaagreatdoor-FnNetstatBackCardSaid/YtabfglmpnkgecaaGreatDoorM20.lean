/- toNode, plainly: the same tree in the reference's type. -/
import Derived.Test.YtabfglmpnkgecaaGreatDoorM19
import Derived.Test.YtabfglmpnkgecaaGreatDoorM18
import Derived.Test.YtabfglmpnkgecaaGreatDoorM01
set_option linter.unusedVariables false
set_option linter.unusedSimpArgs false
namespace Go.Proofs.YtabfglmpnkgecaaGreatDoor.X
open Go.RowKit Go.Proofs.YtabfglmpnkgecaaGreatDoorW.PrintWords Go.Proofs.YtabfglmpnkgecaaGreatDoorW.PrintLast Go.Proofs.YtabfglmpnkgecaaGreatDoorW.PrintMore Go.Proofs.YtabfglmpnkgecaaGreatDoor.Q

/-- toNode makes y of x. -/
def Cv (x : S43) (y : S39) : Prop := ∃ k, laws_toNode.f k x.f0 x.f1 x.f2 x.f3 x.f4 x.f5 x.f6 x.f7 = some (y.f0, y.f1, y.f2, y.f3, y.f4, y.f5, y.f6, y.f7)
theorem toNode_up {a0 : ByteArray} {a1 : Int} {a2 : Bool} {a3 a4 : Int} {a5 : Nat} {a6 : ByteArray} {a7 : List S43} {r : ByteArray × Int × Bool × Int × Int × Nat × ByteArray × (List S39)} : ∀ m k, laws_toNode.f k a0 a1 a2 a3 a4 a5 a6 a7 = some r → laws_toNode.f (k + m) a0 a1 a2 a3 a4 a5 a6 a7 = some r
  | 0, k, h => h
  | m + 1, k, h => laws_toNode.mono _ _ _ _ _ _ _ _ (k + m) r (toNode_up m k h)
theorem toNode_up0 {x : List S43} {y z : Int} {a0 : ByteArray} {a1 : Int} {a2 : Bool} {a3 a4 : Int} {a5 : Nat} {a6 : ByteArray} {a7 : List S39} {r : ByteArray × Int × Bool × Int × Int × Nat × ByteArray × (List S39)} : ∀ m k, laws_toNode.l0 k x y z a0 a1 a2 a3 a4 a5 a6 a7 = some r → laws_toNode.l0 (k + m) x y z a0 a1 a2 a3 a4 a5 a6 a7 = some r
  | 0, k, h => h
  | m + 1, k, h => (laws_toNode.mono_l (k + m)).2 _ _ _ _ _ _ _ _ _ _ _ r (toNode_up0 m k h)
theorem toNode_l0 (l : List S43) (ys : List S39) (hy : ys.length = l.length) (hl : l.length ≤ 1000000) (h : ∀ i, i < l.length → Cv (l.getD i z43) (ys.getD i z39)) (a0 : ByteArray) (a1 : Int) (a2 : Bool) (a3 a4 : Int) (a5 : Nat) (a6 : ByteArray) : ∀ m i, i + m = l.length →
    ∃ k, laws_toNode.l0 k l (l.length : Int) (i : Int) a0 a1 a2 a3 a4 a5 a6 (ys.take i) = some (a0, a1, a2, a3, a4, a5, a6, ys)
  | 0, i, e => ⟨1, by unfold laws_toNode.l0; rw [if_neg (by omega), List.take_of_length_le (by omega)]⟩
  | m + 1, i, e => by
    obtain ⟨k, hk⟩ := toNode_l0 l ys hy hl h a0 a1 a2 a3 a4 a5 a6 m (i + 1) (by omega)
    have hi : i < l.length := by omega
    obtain ⟨k2, hk2⟩ := h i hi
    have e1 : rd_T43 l (i : Int) = l.getD i z43 := by rw [rd_T43, Int.toNat_natCast]
    refine ⟨k + k2 + 1, ?_⟩
    have hk' := toNode_up0 k2 k hk
    have hk2' := toNode_up k k2 hk2
    unfold laws_toNode.l0
    rw [if_pos (by omega), if_pos (by omega), if_pos (by omega), e1, Nat.add_comm k k2, hk2']
    simp only [Option.bind_some]
    rw [if_pos (by rw [List.length_take]; omega), show wrap64 ((i : Int) + 1) = ((i + 1 : Nat) : Int) by unfold wrap64; omega]
    rw [List.take_succ_eq_append_getElem (by omega : i < ys.length), Nat.add_comm k k2] at hk'
    have e2 : ys.getD i z39 = ys[i] := by rw [List.getD_eq_getElem?_getD, List.getElem?_eq_getElem (by omega)]; rfl
    have e3 : ∀ y : S39, (⟨y.f0, y.f1, y.f2, y.f3, y.f4, y.f5, y.f6, y.f7⟩ : S39) = y := fun y => by cases y; rfl
    rw [e2, e3]
    exact hk'
theorem Cv_node (x : S43) (ys : List S39) (hy : ys.length = x.f7.length) (hl : x.f7.length ≤ 1000000) (h : ∀ i, i < x.f7.length → Cv (x.f7.getD i z43) (ys.getD i z39)) : Cv x ⟨x.f0, x.f1, x.f2, x.f3, x.f4, x.f5, x.f6, ys⟩ := by
  obtain ⟨k, hk⟩ := toNode_l0 x.f7 ys hy hl h x.f0 x.f1 x.f2 x.f3 x.f4 x.f5 x.f6 x.f7.length 0 (by omega)
  exact ⟨k + 1, by unfold laws_toNode.f; exact hk⟩
end Go.Proofs.YtabfglmpnkgecaaGreatDoor.X

/- What the door reads is the reference's tree: the plain law. -/
namespace Go.Proofs.YtabfglmpnkgecaaGreatDoor.X
open Go.RowKit Go.Proofs.YtabfglmpnkgecaaGreatDoorW.PrintWords Go.Proofs.YtabfglmpnkgecaaGreatDoorW.PrintLast Go.Proofs.YtabfglmpnkgecaaGreatDoorW.PrintMore Go.Proofs.YtabfglmpnkgecaaGreatDoor.Q

/-- The reference's leaf of a field. -/
def leafY (s : ByteArray) (m : Option Nat) : S39 := match m with | some x => floatN s x | none => noneN s
theorem keys_fold (r : S31) (g s : ByteArray) (q : Nat) (hg : g.toList = grpAt q) (hs : s.toList = (nameAt q).toList) : ∀ (is : List Nat) (M : Nat → Option Nat), is.foldl (pickKey r g s) (leafY s (M q)) = leafY s ((is.foldl (stepM r) M) q)
  | [], _ => rfl
  | i :: is, M => by
    rw [List.foldl_cons, List.foldl_cons, ← keys_fold r g s q hg hs is (stepM r M i)]
    congr 1
    unfold pickKey stepM
    rw [hg, hs]
    by_cases c : grpAt q = r.f0.toList ∧ (nameAt q).toList = (r.f2.getD i ⟨#[]⟩).toList
    · rw [if_pos (by rw [Bool.and_eq_true, beq_iff_eq, beq_iff_eq]; exact ⟨c.1.symm, c.2.symm⟩), if_pos c]
      rfl
    · rw [if_neg (by rw [Bool.and_eq_true, beq_iff_eq, beq_iff_eq]; exact fun h => c ⟨h.1.symm, h.2.symm⟩), if_neg c]
theorem rows_fold (g s : ByteArray) (q : Nat) (hg : g.toList = grpAt q) (hs : s.toList = (nameAt q).toList) : ∀ (l : List S31) (M : Nat → Option Nat), l.foldl (pickRow g s) (leafY s (M q)) = leafY s ((l.foldl (fun M r => rowM r M) M) q)
  | [], _ => rfl
  | r :: l, M => by
    rw [List.foldl_cons, List.foldl_cons, ← rows_fold g s q hg hs l (rowM r M)]
    congr 1
    exact keys_fold r g s q hg hs _ M
theorem leaf_is (l : List S31) (g s : ByteArray) (q : Nat) (hg : g.toList = grpAt q) (hs : s.toList = (nameAt q).toList) : leafOf l g s = leafY s (Mof l q) :=
  rows_fold g s q hg hs l (fun _ => none)
theorem Cv_int (name : ByteArray) (n : Int) : Cv (intM name n) (intN name n) :=
  Cv_node (intM name n) [] rfl (by simp [intM]) (fun i hi => by simp [intM] at hi)
theorem Cv_kid (name : ByteArray) (m : Option Nat) : Cv (kidM name m) (leafY name m) := by
  cases m with
  | none => exact Cv_node (nilM name) [] rfl (by simp [nilM]) (fun i hi => by simp [nilM] at hi)
  | some x => exact Cv_node (floatM name x) [] rfl (by simp [floatM]) (fun i hi => by simp [floatM] at hi)
theorem Cv_rec (name : ByteArray) (kids : List S43) (ys : List S39) (hy : ys.length = kids.length) (hl : kids.length ≤ 1000000) (h : ∀ i, i < kids.length → Cv (kids.getD i z43) (ys.getD i z39)) : Cv (recM name kids) (recN name ys) :=
  Cv_node (recM name kids) ys hy hl h
theorem kidsFrom_len (M : Nat → Option Nat) : ∀ (l : List Fld) (j : Nat), (kidsFrom M l j).length = l.length
  | [], _ => rfl
  | x :: l, j => by simp [kidsFrom, kidsFrom_len M l (j + 1)]
theorem kidsFrom_at (M : Nat → Option Nat) : ∀ (l : List Fld) (j i : Nat), i < l.length → (kidsFrom M l j).getD i z43 = kidM ((l.map (·.nm)).getD i ⟨#[]⟩) (M (j + i))
  | [], _, _, h => by simp at h
  | x :: l, j, 0, _ => rfl
  | x :: l, j, i + 1, h => by
    have ih := kidsFrom_at M l (j + 1) i (by simpa using h)
    rw [show j + (i + 1) = j + 1 + i by omega]
    exact ih
theorem tcp_nm : tcpFlds.map (·.nm) = tcpNames := by kernel_rfl
theorem ip_nm : ipFlds.map (·.nm) = ipNames := by kernel_rfl
theorem tcp_len : tcpNames.length = 123 := by kernel_rfl
theorem ip_len : ipNames.length = 18 := by kernel_rfl
theorem names_tcp : netNames ⟨#[84, 99, 112, 69, 120, 116]⟩ = tcpNames := by
  unfold netNames; rw [if_pos (by rw [ByteArray.toList_eq]; rfl)]
theorem names_ip : netNames ⟨#[73, 112, 69, 120, 116]⟩ = ipNames := by
  unfold netNames; rw [if_neg (by rw [ByteArray.toList_eq]; decide)]
theorem kidsOf_at (l : List S31) (g : ByteArray) (i : Nat) (h : i < (netNames g).length) : (kidsOf l g).getD i z39 = leafOf l g ((netNames g).getD i ⟨#[]⟩) := by
  rw [List.getD_eq_getElem?_getD, List.getElem?_eq_getElem (by simpa [kidsOf] using h), List.getD_eq_getElem?_getD, List.getElem?_eq_getElem h]
  simp [kidsOf]
theorem Cv_tcp (l : List S31) : Cv (recM ⟨#[84, 99, 112, 69, 120, 116]⟩ (kidsFrom (Mof l) tcpFlds 0)) (recN ⟨#[84, 99, 112, 69, 120, 116]⟩ (kidsOf l ⟨#[84, 99, 112, 69, 120, 116]⟩)) := by
  have hl : tcpFlds.length = 123 := by rw [← tcp_len, ← tcp_nm, List.length_map]
  refine Cv_rec _ _ _ (by rw [kidsFrom_len, hl, kidsOf, List.length_map, names_tcp, tcp_len]) (by rw [kidsFrom_len, hl]; decide) (fun i hi => ?_)
  rw [kidsFrom_len, hl] at hi
  rw [kidsFrom_at _ _ _ _ (by omega), tcp_nm, Nat.zero_add, kidsOf_at l _ i (by rw [names_tcp, tcp_len]; exact hi), names_tcp, leaf_is l _ _ i (by rw [grpAt, if_pos hi, ByteArray.toList_eq]; rfl) (by rw [nameAt, if_pos hi])]
  exact Cv_kid _ _
theorem Cv_ip (l : List S31) : Cv (recM ⟨#[73, 112, 69, 120, 116]⟩ (kidsFrom (fun j => Mof l (123 + j)) ipFlds 0)) (recN ⟨#[73, 112, 69, 120, 116]⟩ (kidsOf l ⟨#[73, 112, 69, 120, 116]⟩)) := by
  have hl : ipFlds.length = 18 := by rw [← ip_len, ← ip_nm, List.length_map]
  refine Cv_rec _ _ _ (by rw [kidsFrom_len, hl, kidsOf, List.length_map, names_ip, ip_len]) (by rw [kidsFrom_len, hl]; decide) (fun i hi => ?_)
  rw [kidsFrom_len, hl] at hi
  rw [kidsFrom_at _ _ _ _ (by omega), ip_nm, Nat.zero_add, kidsOf_at l _ i (by rw [names_ip, ip_len]; exact hi), names_ip, leaf_is l _ _ (123 + i) (by rw [grpAt, if_neg (by omega), ByteArray.toList_eq]; rfl) (by rw [nameAt, if_neg (by omega), Nat.add_sub_cancel_left])]
  exact Cv_kid _ _
/-- The door's nodes are the reference's. -/
theorem net_nodes (l : List S31) : (treeKids l).length = (netKids (Mof l)).length ∧ ∀ i, i < (netKids (Mof l)).length → Cv ((netKids (Mof l)).getD i z43) ((treeKids l).getD i z39) := by
  have h3 : netKids (Mof l) = [intM ⟨#[80, 73, 68]⟩ 0, recM ⟨#[84, 99, 112, 69, 120, 116]⟩ (kidsFrom (Mof l) tcpFlds 0), recM ⟨#[73, 112, 69, 120, 116]⟩ (kidsFrom (fun j => Mof l (123 + j)) ipFlds 0)] := rfl
  have h4 : treeKids l = [intN ⟨#[80, 73, 68]⟩ 0, recN ⟨#[84, 99, 112, 69, 120, 116]⟩ (kidsOf l ⟨#[84, 99, 112, 69, 120, 116]⟩), recN ⟨#[73, 112, 69, 120, 116]⟩ (kidsOf l ⟨#[73, 112, 69, 120, 116]⟩)] := rfl
  rw [h3, h4]
  refine ⟨rfl, fun i hi => ?_⟩
  rcases i with _ | _ | _ | i
  · exact Cv_int _ _
  · exact Cv_tcp l
  · exact Cv_ip l
  · simp only [List.length_cons, List.length_nil] at hi
    omega
theorem net_cv (l : List S31) : Cv (recM ⟨#[]⟩ (netKids (Mof l))) (recN ⟨#[]⟩ (treeKids l)) :=
  Cv_rec _ _ _ (net_nodes l).1 (by show 3 ≤ 1000000; decide) (net_nodes l).2
end Go.Proofs.YtabfglmpnkgecaaGreatDoor.X

-- Written by a program of this claim's session (after the kit's print, with a kind for float64). Lean checks it.
namespace Go.Proofs.YtabfglmpnkgecaaGreatDoor.Q
open Go.RowKit Go.Proofs.YtabfglmpnkgecaaGreatDoorW.PrintWords Go.Proofs.YtabfglmpnkgecaaGreatDoorW.PrintLast Go.Proofs.YtabfglmpnkgecaaGreatDoorW.PrintMore
attribute [local go_sem] max2_int min2_int max_two min_two max_three min_three max_four min_four   -- for this text's walks alone
set_option linter.unusedVariables false
set_option linter.unusedSimpArgs false

/-! ### laws_zzFits4: function 22 -/
def laws_zzFits4.l0 : Nat → List ByteArray → Int → Int → Option (Bool)
  | 0, _, _, _ => none
  | k + 1, x8, x9, x10 => if x10 < x9 then (if 0 ≤ x10 then (if x10 < (x8.length : Int) then (if ((rdOf ByteArray.empty x8 x10).size : Int) > 2147483647 then (some false) else (laws_zzFits4.l0 k x8 x9 (wrap64 (x10 + 1)))) else (none)) else (none)) else (some true)
def laws_zzFits4.f (k : Nat) (l0 : List ByteArray) : Option (Bool) := if (l0.length : Int) > 2147483647 then (some false) else (laws_zzFits4.l0 k l0 (l0.length : Int) 0)
theorem laws_zzFits4.mono_l : ∀ k, (∀ y0 y1 y2, LeO (laws_zzFits4.l0 k y0 y1 y2) (laws_zzFits4.l0 (k + 1) y0 y1 y2))
  | 0 => fun _ _ _ r h => by simp [laws_zzFits4.l0] at h
  | k + 1 => by
    have ih0 := laws_zzFits4.mono_l k
    · intro y0 y1 y2
      unfold laws_zzFits4.l0
      repeat' first
      | (with_reducible exact ih0 _ _ _)
      | (with_reducible exact LeO.refl _)
      | (with_reducible exact LeO.none _)
      | (with_reducible refine LeO.ite ?_ ?_)
      | (with_reducible refine LeO.bind ?_ (fun _ => ?_))
      | exact ih0 _ _ _
      | exact LeO.none _
      | refine LeO.ite ?_ ?_
      | refine LeO.bind ?_ (fun _ => ?_)
theorem laws_zzFits4.mono : ∀ a0 k, LeO (laws_zzFits4.f k a0) (laws_zzFits4.f (k + 1) a0) := by
  intro a0 k
  have ih0 := laws_zzFits4.mono_l k
  unfold laws_zzFits4.f
  repeat' first
      | (with_reducible exact ih0 _ _ _)
      | (with_reducible exact LeO.refl _)
      | (with_reducible exact LeO.none _)
      | (with_reducible refine LeO.ite ?_ ?_)
      | (with_reducible refine LeO.bind ?_ (fun _ => ?_))
      | exact ih0 _ _ _
      | exact LeO.none _
      | refine LeO.ite ?_ ?_
      | refine LeO.bind ?_ (fun _ => ?_)
set_option maxHeartbeats 8000000 in
set_option maxRecDepth 100000 in
theorem laws_zzFits4.calls (k : Nat) (A0 : Option Addr) (c0 : Nat) (l0 : List ByteArray) (r : Bool) (w : World) (hr0 : Kd.C Kd.string w A0 l0.length l0) (hc0 : l0.length ≤ c0) (h : laws_zzFits4.f k l0 = some r) :
    Calls Tryz.prog 22 #[.slice A0 l0.length c0] w fun e w' => e = .returned (.bool r) ∧ Drawn0 w w' := by
  have HR0 := Aside0.mk hr0
  have HC0 := Aside0.mk hc0
  clear hr0 hc0
  have H : (if (l0.length : Int) > 2147483647 then (some false) else (laws_zzFits4.l0 k l0 (l0.length : Int) 0)) = some r := h
  clear h
  by_cases c2 : (l0.length : Int) > 2147483647
  · rw [if_pos c2] at H
    have c2b0 : decide (2147483647 < (l0.length : Int)) = true := decide_eq_true c2
    have c2b1 : decide (2147483647 < l0.length) = true := decide_eq_true (by omega)
    clear c2
    obtain rfl := Option.some.inj H
    go_enter Tryz.func22, Tryz.ntmps22
    go_wp2
    go_ret
    exact ⟨by first | rfl | (simp; done) | (simp [*]; done), by repeat (first | exact Drawn0.refl _ | apply Drawn0.step)⟩
  · rw [if_neg c2] at H
    have c2b0 : decide (2147483647 < (l0.length : Int)) = false := decide_eq_false c2
    have c2b1 : decide (2147483647 < l0.length) = false := decide_eq_false (by omega)
    clear c2
    have H' := Aside0.mk H
    clear H
    go_enter Tryz.func22, Tryz.ntmps22
    go_wp2
    go_loopg [10] k (fun kq v10 w' => ∃ (x10_1 : Int), v10 = .int .i64 x10_1 ∧ Aside0 (laws_zzFits4.l0 kq l0 (l0.length : Int) x10_1 = some r) ∧ Aside0 (kq ≤ k) ∧ Drawn0 w w')
    case atStart => exact ⟨(0), (by first | rfl | (simp; done) | (simp [*]; done)), H', ⟨Nat.le_refl _⟩, by repeat (first | exact Drawn0.refl _ | apply Drawn0.step)⟩
    case round =>
      clear H'
      try clear c2
      try clear c2b0
      try clear c2b1
      try clear p2
      obtain ⟨x10_1, rfl, HA, HK1, ⟨m1, rfl⟩⟩ := hrel
      cases gk with
      | zero => exact absurd HA.out (by simp [laws_zzFits4.l0])
      | succ k1 =>
        have H := HA.out
        clear HA
        simp only [laws_zzFits4.l0] at H
        by_cases c3 : x10_1 < (l0.length : Int)
        · rw [if_pos c3] at H
          have c3b0 : decide (x10_1 < (l0.length : Int)) = true := decide_eq_true c3
          clear c3
          by_cases c4 : 0 ≤ x10_1
          · rw [if_pos c4] at H
            have c4b0 : decide (0 ≤ x10_1) = true := decide_eq_true c4
            clear c4
            by_cases c5 : x10_1 < (l0.length : Int)
            · rw [if_pos c5] at H
              have c5b0 : decide (x10_1 < (l0.length : Int)) = true := decide_eq_true c5
              clear c5
              by_cases c6 : ((rdOf ByteArray.empty l0 x10_1).size : Int) > 2147483647
              · rw [if_pos c6] at H
                have c6b0 : decide (2147483647 < ((rdOf ByteArray.empty l0 x10_1).size : Int)) = true := decide_eq_true c6
                have c6b1 : decide (2147483647 < (rdOf ByteArray.empty l0 x10_1).size) = true := decide_eq_true (by omega)
                clear c6
                obtain rfl := Option.some.inj H
                have p101 : 0 ≤ (x10_1 : Int) := of_decide_eq_true (by first | (with_reducible assumption) | assumption)
                have q101 : x10_1 < (l0.length : Int) := of_decide_eq_true (by first | (with_reducible assumption) | assumption)
                obtain ⟨ad101, e101, hx101_0⟩ := Kd.at_string HR0.out x10_1 p101 q101
                cases e101
                replace p101 := eq_true p101
                replace q101 := eq_true q101
                go_wp2
                go_ret
                exact ⟨by first | rfl | (simp; done) | (simp [*]; done), by repeat (first | exact Drawn0.refl _ | apply Drawn0.step)⟩
              · rw [if_neg c6] at H
                have c6b0 : decide (2147483647 < ((rdOf ByteArray.empty l0 x10_1).size : Int)) = false := decide_eq_false c6
                have c6b1 : decide (2147483647 < (rdOf ByteArray.empty l0 x10_1).size) = false := decide_eq_false (by omega)
                clear c6
                have H' := Aside0.mk H
                clear H
                have p101 : 0 ≤ (x10_1 : Int) := of_decide_eq_true (by first | (with_reducible assumption) | assumption)
                have q101 : x10_1 < (l0.length : Int) := of_decide_eq_true (by first | (with_reducible assumption) | assumption)
                obtain ⟨ad101, e101, hx101_0⟩ := Kd.at_string HR0.out x10_1 p101 q101
                cases e101
                replace p101 := eq_true p101
                replace q101 := eq_true q101
                go_wp2
                go_roundg k1
                case measure => have := HK1.out; omega
                case rel => exact ⟨(wrap64 (x10_1 + 1)), (by first | rfl | (simp; done) | (simp [*]; done)), H', ⟨by have := HK1.out; omega⟩, by repeat (first | exact Drawn0.refl _ | apply Drawn0.step)⟩
            · rw [if_neg c5] at H
              exact absurd H (by simp)
          · rw [if_neg c4] at H
            exact absurd H (by simp)
        · rw [if_neg c3] at H
          have c3b0 : decide (x10_1 < (l0.length : Int)) = false := decide_eq_false c3
          clear c3
          obtain rfl := Option.some.inj H
          go_wp2
          go_ret
          exact ⟨by first | rfl | (simp; done) | (simp [*]; done), by repeat (first | exact Drawn0.refl _ | apply Drawn0.step)⟩

end Go.Proofs.YtabfglmpnkgecaaGreatDoor.Q

-- Written by a program of this claim's session (after the kit's print, with a kind for float64). Lean checks it.
namespace Go.Proofs.YtabfglmpnkgecaaGreatDoor.Q
open Go.RowKit Go.Proofs.YtabfglmpnkgecaaGreatDoorW.PrintWords Go.Proofs.YtabfglmpnkgecaaGreatDoorW.PrintLast Go.Proofs.YtabfglmpnkgecaaGreatDoorW.PrintMore
attribute [local go_sem] max2_int min2_int max_two min_two max_three min_three max_four min_four   -- for this text's walks alone
set_option linter.unusedVariables false
set_option linter.unusedSimpArgs false

/-! ### laws_zzFits6: function 9 -/
def laws_zzFits6.f (k : Nat) (a0_0 : ByteArray) (l0_1 : List Int) (l0_2 : List ByteArray) : Option (Bool) := if (a0_0.size : Int) > 2147483647 then (some false) else (if (l0_1.length : Int) > 2147483647 then (some false) else ((laws_zzFits4.f k l0_2).bind fun t103 => (if t103 = true then (some true) else (some false))))
theorem laws_zzFits6.mono : ∀ a0 a1 a2 k, LeO (laws_zzFits6.f k a0 a1 a2) (laws_zzFits6.f (k + 1) a0 a1 a2) := by
  intro a0 a1 a2 k
  unfold laws_zzFits6.f
  repeat' first
      | (with_reducible exact laws_zzFits4.mono _ _)
      | (with_reducible exact LeO.refl _)
      | (with_reducible exact LeO.none _)
      | (with_reducible refine LeO.ite ?_ ?_)
      | (with_reducible refine LeO.bind ?_ (fun _ => ?_))
      | exact laws_zzFits4.mono _ _
      | exact LeO.none _
      | refine LeO.ite ?_ ?_
      | refine LeO.bind ?_ (fun _ => ?_)
set_option maxHeartbeats 8000000 in
set_option maxRecDepth 100000 in
theorem laws_zzFits6.calls (k : Nat) (a0_0 : ByteArray) (A0_1 : Option Addr) (c0_1 : Nat) (l0_1 : List Int) (A0_2 : Option Addr) (c0_2 : Nat) (l0_2 : List ByteArray) (r : Bool) (w : World) (hr0_1 : Kd.C (Kd.int .u64) w A0_1 l0_1.length l0_1) (hc0_1 : l0_1.length ≤ c0_1) (hr0_2 : Kd.C Kd.string w A0_2 l0_2.length l0_2) (hc0_2 : l0_2.length ≤ c0_2) (h : laws_zzFits6.f k a0_0 l0_1 l0_2 = some r) :
    Calls Tryz.prog 9 #[.agg #[.string a0_0, .slice A0_1 l0_1.length c0_1, .slice A0_2 l0_2.length c0_2]] w fun e w' => e = .returned (.bool r) ∧ Below w.heap.size w w' := by
  have hu31 := Tryz.underlying31
  have HR0_1 := Aside0.mk hr0_1
  have HC0_1 := Aside0.mk hc0_1
  clear hr0_1 hc0_1
  have HR0_2 := Aside0.mk hr0_2
  have HC0_2 := Aside0.mk hc0_2
  clear hr0_2 hc0_2
  have HB := Aside0.mk (Below.refl w.heap.size w)
  have H : (if (a0_0.size : Int) > 2147483647 then (some false) else (if (l0_1.length : Int) > 2147483647 then (some false) else ((laws_zzFits4.f k l0_2).bind fun t103 => (if t103 = true then (some true) else (some false))))) = some r := h
  clear h
  by_cases c2 : (a0_0.size : Int) > 2147483647
  · rw [if_pos c2] at H
    have c2b0 : decide (2147483647 < (a0_0.size : Int)) = true := decide_eq_true c2
    have c2b1 : decide (2147483647 < a0_0.size) = true := decide_eq_true (by omega)
    clear c2
    obtain rfl := Option.some.inj H
    go_enter Tryz.func9, Tryz.ntmps9
    go_wp2_with (first | ((with_reducible refine gate_dst (N := 1) rfl ?_); refine box_event ?hg (N := 1) ?hd (cs := #[.string a0_0, .slice A0_1 l0_1.length c0_1, .slice A0_2 l0_2.length c0_2]) (t := 31) ?hr ?_; (case hd => rfl); (case hg => rfl); (case hr => first | (go_simp; done) | (go_simp; rfl)); intro gb102 hg w3 hbox hb; have n0_ := Aside0.mk (below_step (by repeat (first | (with_reducible first | exact HB.out | apply below_alloc | apply pw_below_drewN | apply below_drew1) | exact HB.out)) hb); have n1_ := Aside0.mk (hbox); have n2_ := Aside0.mk ((by rw [hg]; exact (below_size (by repeat (first | (with_reducible first | exact HB.out | apply below_alloc | apply pw_below_drewN | apply below_drew1) | exact HB.out))) : w.heap.size ≤ gb102)); have n3_ := Aside0.mk ((by rw [hg]; exact (below_size (by repeat (first | (with_reducible first | exact HB.out | apply below_alloc | apply pw_below_drewN | apply below_drew1) | exact HB.out))) : w.heap.size ≤ gb102)); clear HB; have HB := n0_; have BK102 := n1_; have GW102 := n2_; have GE102 := n3_; clear n0_ n1_ n2_ n3_; clear hb hbox hg; have hcz4_0 : w3.cell? ⟨gb102, 0, none⟩ = some (.string a0_0) := (blk_cell BK102.out 0).trans rfl; have hcz4_1 : w3.cell? ⟨gb102, 1, none⟩ = some (.slice A0_1 l0_1.length c0_1) := (blk_cell BK102.out 1).trans rfl; have hcz4_2 : w3.cell? ⟨gb102, 2, none⟩ = some (.slice A0_2 l0_2.length c0_2) := (blk_cell BK102.out 2).trans rfl; have hfz4_0 := blk_frozen BK102.out 0; have hfz4_1 := blk_frozen BK102.out 1; have hfz4_2 := blk_frozen BK102.out 2))
    go_ret
    exact ⟨by first | rfl | (simp [errW_none, errW_some] <;> rfl) | (simp [*, errW_none, errW_some] <;> rfl), by repeat (first | (with_reducible first | exact HB.out | apply below_alloc | apply pw_below_drewN | apply below_drew1 | refine below_set ?_ GE102.out) | exact HB.out)⟩
  · rw [if_neg c2] at H
    have c2b0 : decide (2147483647 < (a0_0.size : Int)) = false := decide_eq_false c2
    have c2b1 : decide (2147483647 < a0_0.size) = false := decide_eq_false (by omega)
    clear c2
    by_cases c5 : (l0_1.length : Int) > 2147483647
    · rw [if_pos c5] at H
      have c5b0 : decide (2147483647 < (l0_1.length : Int)) = true := decide_eq_true c5
      have c5b1 : decide (2147483647 < l0_1.length) = true := decide_eq_true (by omega)
      clear c5
      obtain rfl := Option.some.inj H
      go_enter Tryz.func9, Tryz.ntmps9
      go_wp2_with (first | ((with_reducible refine gate_dst (N := 1) rfl ?_); refine box_event ?hg (N := 1) ?hd (cs := #[.string a0_0, .slice A0_1 l0_1.length c0_1, .slice A0_2 l0_2.length c0_2]) (t := 31) ?hr ?_; (case hd => rfl); (case hg => rfl); (case hr => first | (go_simp; done) | (go_simp; rfl)); intro gb102 hg w6 hbox hb; have n0_ := Aside0.mk (below_step (by repeat (first | (with_reducible first | exact HB.out | apply below_alloc | apply pw_below_drewN | apply below_drew1) | exact HB.out)) hb); have n1_ := Aside0.mk (hbox); have n2_ := Aside0.mk ((by rw [hg]; exact (below_size (by repeat (first | (with_reducible first | exact HB.out | apply below_alloc | apply pw_below_drewN | apply below_drew1) | exact HB.out))) : w.heap.size ≤ gb102)); have n3_ := Aside0.mk ((by rw [hg]; exact (below_size (by repeat (first | (with_reducible first | exact HB.out | apply below_alloc | apply pw_below_drewN | apply below_drew1) | exact HB.out))) : w.heap.size ≤ gb102)); clear HB; have HB := n0_; have BK102 := n1_; have GW102 := n2_; have GE102 := n3_; clear n0_ n1_ n2_ n3_; clear hb hbox hg; have hcz7_0 : w6.cell? ⟨gb102, 0, none⟩ = some (.string a0_0) := (blk_cell BK102.out 0).trans rfl; have hcz7_1 : w6.cell? ⟨gb102, 1, none⟩ = some (.slice A0_1 l0_1.length c0_1) := (blk_cell BK102.out 1).trans rfl; have hcz7_2 : w6.cell? ⟨gb102, 2, none⟩ = some (.slice A0_2 l0_2.length c0_2) := (blk_cell BK102.out 2).trans rfl; have hfz7_0 := blk_frozen BK102.out 0; have hfz7_1 := blk_frozen BK102.out 1; have hfz7_2 := blk_frozen BK102.out 2))
      go_ret
      exact ⟨by first | rfl | (simp [errW_none, errW_some] <;> rfl) | (simp [*, errW_none, errW_some] <;> rfl), by repeat (first | (with_reducible first | exact HB.out | apply below_alloc | apply pw_below_drewN | apply below_drew1 | refine below_set ?_ GE102.out) | exact HB.out)⟩
    · rw [if_neg c5] at H
      have c5b0 : decide (2147483647 < (l0_1.length : Int)) = false := decide_eq_false c5
      have c5b1 : decide (2147483647 < l0_1.length) = false := decide_eq_false (by omega)
      clear c5
      replace H := Option.bind_eq_some_iff.mp H
      obtain ⟨t103, A80, H⟩ := H
      replace H : (if t103 = true then (some true) else (some false)) = some r := H
      have A8 := Aside0.mk A80
      clear A80
      by_cases c9 : t103 = true
      · subst c9
        have H1 : (some true) = some r := by rw [if_pos rfl] at H; exact H
        clear H
        have H := H1
        clear H1
        obtain rfl := Option.some.inj H
        go_enter Tryz.func9, Tryz.ntmps9
        go_wp2_with (first | ((with_reducible refine gate_dst (N := 1) rfl ?_); refine box_event ?hg (N := 1) ?hd (cs := #[.string a0_0, .slice A0_1 l0_1.length c0_1, .slice A0_2 l0_2.length c0_2]) (t := 31) ?hr ?_; (case hd => rfl); (case hg => rfl); (case hr => first | (go_simp; done) | (go_simp; rfl)); intro gb102 hg w10 hbox hb; have n0_ := Aside0.mk (below_step (by repeat (first | (with_reducible first | exact HB.out | apply below_alloc | apply pw_below_drewN | apply below_drew1) | exact HB.out)) hb); have n1_ := Aside0.mk (hbox); have n2_ := Aside0.mk ((by rw [hg]; exact (below_size (by repeat (first | (with_reducible first | exact HB.out | apply below_alloc | apply pw_below_drewN | apply below_drew1) | exact HB.out))) : w.heap.size ≤ gb102)); have n3_ := Aside0.mk ((by rw [hg]; exact (below_size (by repeat (first | (with_reducible first | exact HB.out | apply below_alloc | apply pw_below_drewN | apply below_drew1) | exact HB.out))) : w.heap.size ≤ gb102)); clear HB; have HB := n0_; have BK102 := n1_; have GW102 := n2_; have GE102 := n3_; clear n0_ n1_ n2_ n3_; clear hb hbox hg; have hcz11_0 : w10.cell? ⟨gb102, 0, none⟩ = some (.string a0_0) := (blk_cell BK102.out 0).trans rfl; have hcz11_1 : w10.cell? ⟨gb102, 1, none⟩ = some (.slice A0_1 l0_1.length c0_1) := (blk_cell BK102.out 1).trans rfl; have hcz11_2 : w10.cell? ⟨gb102, 2, none⟩ = some (.slice A0_2 l0_2.length c0_2) := (blk_cell BK102.out 2).trans rfl; have hfz11_0 := blk_frozen BK102.out 0; have hfz11_1 := blk_frozen BK102.out 1; have hfz11_2 := blk_frozen BK102.out 2) | ((with_reducible refine gate_callee (f := 22) rfl ?_); refine goesL_ (some 13) rfl rfl Tryz.func22 (by kernel_rfl) rfl #[.slice A0_2 l0_2.length c0_2] rfl (by (try simp only [List.map_toArray, List.map_cons, List.map_nil]); first | done | rfl | (simp only [List.length_drop, List.length_take]; rfl)) ?_; (with_reducible refine (laws_zzFits4.calls k _ _ l0_2 true _ ?side1 ?side2 A8.out).mono ?_); (case side1 => repeat (first | exact (Kd.C_below HR0_2.out HB.out) | (with_reducible refine Kd.C_alloc ?_ _) | (with_reducible refine Kd.C_drewN ?_ _) | (with_reducible refine Kd.C_drew ?_))); (case side2 => exact HC0_2.out); rintro e w' ⟨rfl, ⟨nd, rfl⟩⟩; refine ⟨_, rfl, ?_⟩))
        go_ret
        exact ⟨by first | rfl | (simp [errW_none, errW_some] <;> rfl) | (simp [*, errW_none, errW_some] <;> rfl), by repeat (first | (with_reducible first | exact HB.out | apply below_alloc | apply pw_below_drewN | apply below_drew1 | refine below_set ?_ GE102.out) | exact HB.out)⟩
      · replace c9 := Bool.eq_false_iff.mpr c9
        subst c9
        have H1 : (some false) = some r := by rw [if_neg (show ¬ (false = true) by decide)] at H; exact H
        clear H
        have H := H1
        clear H1
        obtain rfl := Option.some.inj H
        go_enter Tryz.func9, Tryz.ntmps9
        go_wp2_with (first | ((with_reducible refine gate_dst (N := 1) rfl ?_); refine box_event ?hg (N := 1) ?hd (cs := #[.string a0_0, .slice A0_1 l0_1.length c0_1, .slice A0_2 l0_2.length c0_2]) (t := 31) ?hr ?_; (case hd => rfl); (case hg => rfl); (case hr => first | (go_simp; done) | (go_simp; rfl)); intro gb102 hg w12 hbox hb; have n0_ := Aside0.mk (below_step (by repeat (first | (with_reducible first | exact HB.out | apply below_alloc | apply pw_below_drewN | apply below_drew1) | exact HB.out)) hb); have n1_ := Aside0.mk (hbox); have n2_ := Aside0.mk ((by rw [hg]; exact (below_size (by repeat (first | (with_reducible first | exact HB.out | apply below_alloc | apply pw_below_drewN | apply below_drew1) | exact HB.out))) : w.heap.size ≤ gb102)); have n3_ := Aside0.mk ((by rw [hg]; exact (below_size (by repeat (first | (with_reducible first | exact HB.out | apply below_alloc | apply pw_below_drewN | apply below_drew1) | exact HB.out))) : w.heap.size ≤ gb102)); clear HB; have HB := n0_; have BK102 := n1_; have GW102 := n2_; have GE102 := n3_; clear n0_ n1_ n2_ n3_; clear hb hbox hg; have hcz13_0 : w12.cell? ⟨gb102, 0, none⟩ = some (.string a0_0) := (blk_cell BK102.out 0).trans rfl; have hcz13_1 : w12.cell? ⟨gb102, 1, none⟩ = some (.slice A0_1 l0_1.length c0_1) := (blk_cell BK102.out 1).trans rfl; have hcz13_2 : w12.cell? ⟨gb102, 2, none⟩ = some (.slice A0_2 l0_2.length c0_2) := (blk_cell BK102.out 2).trans rfl; have hfz13_0 := blk_frozen BK102.out 0; have hfz13_1 := blk_frozen BK102.out 1; have hfz13_2 := blk_frozen BK102.out 2) | ((with_reducible refine gate_callee (f := 22) rfl ?_); refine goesL_ (some 13) rfl rfl Tryz.func22 (by kernel_rfl) rfl #[.slice A0_2 l0_2.length c0_2] rfl (by (try simp only [List.map_toArray, List.map_cons, List.map_nil]); first | done | rfl | (simp only [List.length_drop, List.length_take]; rfl)) ?_; (with_reducible refine (laws_zzFits4.calls k _ _ l0_2 false _ ?side1 ?side2 A8.out).mono ?_); (case side1 => repeat (first | exact (Kd.C_below HR0_2.out HB.out) | (with_reducible refine Kd.C_alloc ?_ _) | (with_reducible refine Kd.C_drewN ?_ _) | (with_reducible refine Kd.C_drew ?_))); (case side2 => exact HC0_2.out); rintro e w' ⟨rfl, ⟨nd, rfl⟩⟩; refine ⟨_, rfl, ?_⟩))
        go_ret
        exact ⟨by first | rfl | (simp [errW_none, errW_some] <;> rfl) | (simp [*, errW_none, errW_some] <;> rfl), by repeat (first | (with_reducible first | exact HB.out | apply below_alloc | apply pw_below_drewN | apply below_drew1 | refine below_set ?_ GE102.out) | exact HB.out)⟩

end Go.Proofs.YtabfglmpnkgecaaGreatDoor.Q
