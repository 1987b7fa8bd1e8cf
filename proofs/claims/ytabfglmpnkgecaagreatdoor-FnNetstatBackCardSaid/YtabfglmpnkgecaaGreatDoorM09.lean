-- Written by a program of this claim's session (after the kit's print, with a kind for float64). Lean checks it.
import Derived.Test.YtabfglmpnkgecaaGreatDoorM01
import Derived.Test.YtabfglmpnkgecaaGreatDoorM08
import Derived.LoopN
set_option linter.unusedVariables false
set_option linter.unusedSimpArgs false
namespace Go.Proofs.YtabfglmpnkgecaaGreatDoor.Q
open Go.RowKit Go.Proofs.YtabfglmpnkgecaaGreatDoorW.PrintWords Go.Proofs.YtabfglmpnkgecaaGreatDoorW.PrintLast Go.Proofs.YtabfglmpnkgecaaGreatDoorW.PrintMore
attribute [local go_sem] max2_int min2_int max_two min_two max_three min_three max_four min_four   -- for this text's walks alone
set_option linter.unusedVariables false
set_option linter.unusedSimpArgs false

/-! ### spec_distinct: function 27 -/
mutual
def spec_distinct.l0 : Nat → List (S31) → Int → Int → Option (Bool)
  | 0, _, _, _ => none
  | k + 1, x0, x6, x7 => if x7 < x6 then (spec_distinct.l1 k x0 x7 x6 x7 x7 0) else (some true)
def spec_distinct.l1 : Nat → List (S31) → Int → Int → Int → Int → Int → Option (Bool)
  | 0, _, _, _, _, _, _ => none
  | k + 1, x0, x3, x6, x7, x10, x11 => if x11 < x10 then (if 0 ≤ x3 then (if x3 < (x0.length : Int) then (if 0 ≤ x11 then (if x11 < (x0.length : Int) then (if ((rd_T31 x0 x3).f0).toList = ((rd_T31 x0 x11).f0).toList then (some false) else (spec_distinct.l1 k x0 x3 x6 x7 x10 (wrap64 (x11 + 1)))) else (none)) else (none)) else (none)) else (none)) else (spec_distinct.l0 k x0 x6 (wrap64 (x7 + 1)))
end
def spec_distinct.f (k : Nat) (l0 : List (S31)) : Option (Bool) := spec_distinct.l0 k l0 (l0.length : Int) 0
theorem spec_distinct.mono_l : ∀ k, (∀ y0 y1 y2, LeO (spec_distinct.l0 k y0 y1 y2) (spec_distinct.l0 (k + 1) y0 y1 y2)) ∧ (∀ y0 y1 y2 y3 y4 y5, LeO (spec_distinct.l1 k y0 y1 y2 y3 y4 y5) (spec_distinct.l1 (k + 1) y0 y1 y2 y3 y4 y5))
  | 0 => ⟨fun _ _ _ r h => by simp [spec_distinct.l0] at h, fun _ _ _ _ _ _ r h => by simp [spec_distinct.l1] at h⟩
  | k + 1 => by
    obtain ⟨ih0, ih1⟩ := spec_distinct.mono_l k
    refine ⟨?_, ?_⟩
    · intro y0 y1 y2
      unfold spec_distinct.l0
      repeat' first
      | (with_reducible exact ih0 _ _ _)
      | (with_reducible exact ih1 _ _ _ _ _ _)
      | (with_reducible exact LeO.refl _)
      | (with_reducible exact LeO.none _)
      | (with_reducible refine LeO.ite ?_ ?_)
      | (with_reducible refine LeO.bind ?_ (fun _ => ?_))
      | exact ih0 _ _ _
      | exact ih1 _ _ _ _ _ _
      | exact LeO.none _
      | refine LeO.ite ?_ ?_
      | refine LeO.bind ?_ (fun _ => ?_)
    · intro y0 y1 y2 y3 y4 y5
      unfold spec_distinct.l1
      repeat' first
      | (with_reducible exact ih0 _ _ _)
      | (with_reducible exact ih1 _ _ _ _ _ _)
      | (with_reducible exact LeO.refl _)
      | (with_reducible exact LeO.none _)
      | (with_reducible refine LeO.ite ?_ ?_)
      | (with_reducible refine LeO.bind ?_ (fun _ => ?_))
      | exact ih0 _ _ _
      | exact ih1 _ _ _ _ _ _
      | exact LeO.none _
      | refine LeO.ite ?_ ?_
      | refine LeO.bind ?_ (fun _ => ?_)
theorem spec_distinct.mono : ∀ a0 k, LeO (spec_distinct.f k a0) (spec_distinct.f (k + 1) a0) := by
  intro a0 k
  obtain ⟨ih0, ih1⟩ := spec_distinct.mono_l k
  unfold spec_distinct.f
  repeat' first
      | (with_reducible exact ih0 _ _ _)
      | (with_reducible exact ih1 _ _ _ _ _ _)
      | (with_reducible exact LeO.refl _)
      | (with_reducible exact LeO.none _)
      | (with_reducible refine LeO.ite ?_ ?_)
      | (with_reducible refine LeO.bind ?_ (fun _ => ?_))
      | exact ih0 _ _ _
      | exact ih1 _ _ _ _ _ _
      | exact LeO.none _
      | refine LeO.ite ?_ ?_
      | refine LeO.bind ?_ (fun _ => ?_)
set_option maxHeartbeats 8000000 in
set_option maxRecDepth 100000 in
theorem spec_distinct.calls (k : Nat) (A0 : Option Addr) (c0 : Nat) (l0 : List (S31)) (r : Bool) (w : World) (hr0 : Kd.C k31 w A0 l0.length l0) (hc0 : l0.length ≤ c0) (h : spec_distinct.f k l0 = some r) :
    Calls Tryz.prog 27 #[.slice A0 l0.length c0] w fun e w' => e = .returned (.bool r) ∧ Drawn0 w w' := by
  have HR0 := Aside0.mk hr0
  have HC0 := Aside0.mk hc0
  clear hr0 hc0
  have H : (spec_distinct.l0 k l0 (l0.length : Int) 0) = some r := h
  clear h
  have H' := Aside0.mk H
  clear H
  go_enter Tryz.func27, Tryz.ntmps27
  go_wp2
  repeat (go_quiet (fail); try go_wp2)
  go_loopg [7] k (fun kq v7 w' => ∃ (x7_1 : Int), v7 = .int .i64 x7_1 ∧ Aside0 (spec_distinct.l0 kq l0 (l0.length : Int) x7_1 = some r) ∧ Aside0 (kq ≤ k) ∧ Drawn0 w w')
  case atStart => exact ⟨(0), (by first | rfl | (simp; done) | (simp [*]; done)), H', ⟨Nat.le_refl _⟩, by repeat (first | exact Drawn0.refl _ | apply Drawn0.step)⟩
  case round =>
    clear H'
    obtain ⟨x7_1, rfl, HA, HK1, ⟨m1, rfl⟩⟩ := hrel
    cases gk with
    | zero => exact absurd HA.out (by simp [spec_distinct.l0])
    | succ k1 =>
      have H := HA.out
      clear HA
      simp only [spec_distinct.l0] at H
      by_cases c2 : x7_1 < (l0.length : Int)
      · rw [if_pos c2] at H
        have c2b0 : decide (x7_1 < (l0.length : Int)) = true := decide_eq_true c2
        clear c2
        have H' := Aside0.mk H
        clear H
        go_wp2
        repeat (go_quiet (fail); try go_wp2)
        go_loopg [11] k1 (fun kq v11 w' => ∃ (x11_2 : Int), v11 = .int .i64 x11_2 ∧ Aside0 (spec_distinct.l1 kq l0 x7_1 (l0.length : Int) x7_1 x7_1 x11_2 = some r) ∧ Aside0 (kq ≤ k1) ∧ Drawn0 w w')
        case atStart => exact ⟨(0), (by first | rfl | (simp; done) | (simp [*]; done)), H', ⟨Nat.le_refl _⟩, by repeat (first | exact Drawn0.refl _ | apply Drawn0.step)⟩
        case round =>
          clear H'
          try clear c2
          try clear c2b0
          try clear p2
          obtain ⟨x11_2, rfl, HA, HK2, ⟨m2, rfl⟩⟩ := hrel
          cases gk with
          | zero => exact absurd HA.out (by simp [spec_distinct.l1])
          | succ k2 =>
            have H := HA.out
            clear HA
            simp only [spec_distinct.l1] at H
            by_cases c3 : x11_2 < x7_1
            · rw [if_pos c3] at H
              have c3b0 : decide (x11_2 < x7_1) = true := decide_eq_true c3
              clear c3
              by_cases c4 : 0 ≤ x7_1
              · rw [if_pos c4] at H
                have c4b0 : decide (0 ≤ x7_1) = true := decide_eq_true c4
                clear c4
                by_cases c5 : x7_1 < (l0.length : Int)
                · rw [if_pos c5] at H
                  have c5b0 : decide (x7_1 < (l0.length : Int)) = true := decide_eq_true c5
                  clear c5
                  by_cases c6 : 0 ≤ x11_2
                  · rw [if_pos c6] at H
                    have c6b0 : decide (0 ≤ x11_2) = true := decide_eq_true c6
                    clear c6
                    by_cases c7 : x11_2 < (l0.length : Int)
                    · rw [if_pos c7] at H
                      have c7b0 : decide (x11_2 < (l0.length : Int)) = true := decide_eq_true c7
                      clear c7
                      by_cases c8 : ((rd_T31 l0 x7_1).f0).toList = ((rd_T31 l0 x11_2).f0).toList
                      · rw [if_pos c8] at H
                        have c8b0 : (((rd_T31 l0 x7_1).f0).toList == ((rd_T31 l0 x11_2).f0).toList) = true := beq_iff_eq.mpr c8
                        have c8b1 : (((rd_T31 l0 x7_1).f0).toList != ((rd_T31 l0 x11_2).f0).toList) = false := bne_eq_false_iff_eq.mpr c8
                        clear c8
                        obtain rfl := Option.some.inj H
                        have p148 : 0 ≤ (x7_1 : Int) := of_decide_eq_true (by first | (with_reducible assumption) | assumption)
                        have q148 : x7_1 < (l0.length : Int) := of_decide_eq_true (by first | (with_reducible assumption) | assumption)
                        obtain ⟨ad148, A148_1, c148_1, A148_2, c148_2, e148, hx148_0, hx148_1, hx148_2, hl148_1, hi148_1, hl148_2, hi148_2⟩ := at_T31 HR0.out x7_1 p148 q148
                        cases e148
                        have HR148_1 := Aside0.mk hi148_1
                        have HC148_1 := Aside0.mk hl148_1
                        clear hi148_1 hl148_1
                        have HR148_2 := Aside0.mk hi148_2
                        have HC148_2 := Aside0.mk hl148_2
                        clear hi148_2 hl148_2
                        replace p148 := eq_true p148
                        replace q148 := eq_true q148
                        have p149 : 0 ≤ (x11_2 : Int) := of_decide_eq_true (by first | (with_reducible assumption) | assumption)
                        have q149 : x11_2 < (l0.length : Int) := of_decide_eq_true (by first | (with_reducible assumption) | assumption)
                        obtain ⟨ad149, A149_1, c149_1, A149_2, c149_2, e149, hx149_0, hx149_1, hx149_2, hl149_1, hi149_1, hl149_2, hi149_2⟩ := at_T31 HR0.out x11_2 p149 q149
                        obtain rfl : ad148 = ad149 := (by injection e149)
                        have HR149_1 := Aside0.mk hi149_1
                        have HC149_1 := Aside0.mk hl149_1
                        clear hi149_1 hl149_1
                        have HR149_2 := Aside0.mk hi149_2
                        have HC149_2 := Aside0.mk hl149_2
                        clear hi149_2 hl149_2
                        replace p149 := eq_true p149
                        replace q149 := eq_true q149
                        go_wp2
                        repeat (go_quiet (fail); try go_wp2)
                        go_ret
                        exact ⟨by first | rfl | (simp; done) | (simp [*]; done), by repeat (first | exact Drawn0.refl _ | apply Drawn0.step)⟩
                      · rw [if_neg c8] at H
                        have c8b0 : (((rd_T31 l0 x7_1).f0).toList == ((rd_T31 l0 x11_2).f0).toList) = false := beq_eq_false_iff_ne.mpr c8
                        have c8b1 : (((rd_T31 l0 x7_1).f0).toList != ((rd_T31 l0 x11_2).f0).toList) = true := bne_iff_ne.mpr c8
                        have H' := Aside0.mk H
                        clear H
                        have p148 : 0 ≤ (x7_1 : Int) := of_decide_eq_true (by first | (with_reducible assumption) | assumption)
                        have q148 : x7_1 < (l0.length : Int) := of_decide_eq_true (by first | (with_reducible assumption) | assumption)
                        obtain ⟨ad148, A148_1, c148_1, A148_2, c148_2, e148, hx148_0, hx148_1, hx148_2, hl148_1, hi148_1, hl148_2, hi148_2⟩ := at_T31 HR0.out x7_1 p148 q148
                        cases e148
                        have HR148_1 := Aside0.mk hi148_1
                        have HC148_1 := Aside0.mk hl148_1
                        clear hi148_1 hl148_1
                        have HR148_2 := Aside0.mk hi148_2
                        have HC148_2 := Aside0.mk hl148_2
                        clear hi148_2 hl148_2
                        replace p148 := eq_true p148
                        replace q148 := eq_true q148
                        have p149 : 0 ≤ (x11_2 : Int) := of_decide_eq_true (by first | (with_reducible assumption) | assumption)
                        have q149 : x11_2 < (l0.length : Int) := of_decide_eq_true (by first | (with_reducible assumption) | assumption)
                        obtain ⟨ad149, A149_1, c149_1, A149_2, c149_2, e149, hx149_0, hx149_1, hx149_2, hl149_1, hi149_1, hl149_2, hi149_2⟩ := at_T31 HR0.out x11_2 p149 q149
                        obtain rfl : ad148 = ad149 := (by injection e149)
                        have HR149_1 := Aside0.mk hi149_1
                        have HC149_1 := Aside0.mk hl149_1
                        clear hi149_1 hl149_1
                        have HR149_2 := Aside0.mk hi149_2
                        have HC149_2 := Aside0.mk hl149_2
                        clear hi149_2 hl149_2
                        replace p149 := eq_true p149
                        replace q149 := eq_true q149
                        go_wp2
                        repeat (go_quiet (fail); try go_wp2)
                        go_roundg k2
                        case measure => have := HK1.out; have := HK2.out; omega
                        case rel => exact ⟨(wrap64 (x11_2 + 1)), (by first | rfl | (simp; done) | (simp [*]; done)), H', ⟨by have := HK1.out; have := HK2.out; omega⟩, by repeat (first | exact Drawn0.refl _ | apply Drawn0.step)⟩
                    · rw [if_neg c7] at H
                      exact absurd H (by simp)
                  · rw [if_neg c6] at H
                    exact absurd H (by simp)
                · rw [if_neg c5] at H
                  exact absurd H (by simp)
              · rw [if_neg c4] at H
                exact absurd H (by simp)
            · rw [if_neg c3] at H
              have c3b0 : decide (x11_2 < x7_1) = false := decide_eq_false c3
              clear c3
              have H' := Aside0.mk H
              clear H
              go_wp2
              repeat (go_quiet (fail); try go_wp2)
              go_roundg k2
              case measure => have := HK1.out; have := HK2.out; omega
              case rel => exact ⟨(wrap64 (x7_1 + 1)), (by first | rfl | (simp; done) | (simp [*]; done)), H', ⟨by have := HK1.out; have := HK2.out; omega⟩, by repeat (first | exact Drawn0.refl _ | apply Drawn0.step)⟩
      · rw [if_neg c2] at H
        have c2b0 : decide (x7_1 < (l0.length : Int)) = false := decide_eq_false c2
        clear c2
        obtain rfl := Option.some.inj H
        go_wp2
        repeat (go_quiet (fail); try go_wp2)
        go_ret
        exact ⟨by first | rfl | (simp; done) | (simp [*]; done), by repeat (first | exact Drawn0.refl _ | apply Drawn0.step)⟩

end Go.Proofs.YtabfglmpnkgecaaGreatDoor.Q

/- Which rows the form can say; the callees of groupsFine, by plain results. -/
namespace Go.Proofs.YtabfglmpnkgecaaGreatDoor.X
open Go.RowKit Go.Proofs.YtabfglmpnkgecaaGreatDoorW.PrintWords Go.Proofs.YtabfglmpnkgecaaGreatDoorW.PrintLast Go.Proofs.YtabfglmpnkgecaaGreatDoorW.PrintMore Go.Proofs.YtabfglmpnkgecaaGreatDoor.Q

def unreadNames : List ByteArray := [⟨#[84, 67, 80, 65, 98, 111, 114, 116, 79, 110, 77, 101, 109, 111, 114, 121]⟩, ⟨#[84, 67, 80, 65, 98, 111, 114, 116, 79, 110, 84, 105, 109, 101, 111, 117, 116]⟩, ⟨#[84, 67, 80, 65, 98, 111, 114, 116, 79, 110, 76, 105, 110, 103, 101, 114]⟩, ⟨#[84, 67, 80, 65, 98, 111, 114, 116, 70, 97, 105, 108, 101, 100]⟩, ⟨#[84, 67, 80, 77, 101, 109, 111, 114, 121, 80, 114, 101, 115, 115, 117, 114, 101, 115]⟩, ⟨#[84, 67, 80, 77, 101, 109, 111, 114, 121, 80, 114, 101, 115, 115, 117, 114, 101, 115, 67, 104, 114, 111, 110, 111]⟩, ⟨#[84, 67, 80, 83, 65, 67, 75, 68, 105, 115, 99, 97, 114, 100]⟩, ⟨#[84, 67, 80, 68, 83, 65, 67, 75, 73, 103, 110, 111, 114, 101, 100, 79, 108, 100]⟩, ⟨#[84, 67, 80, 68, 83, 65, 67, 75, 73, 103, 110, 111, 114, 101, 100, 78, 111, 85, 110, 100, 111]⟩, ⟨#[84, 67, 80, 83, 112, 117, 114, 105, 111, 117, 115, 82, 84, 79, 115]⟩, ⟨#[84, 67, 80, 77, 68, 53, 78, 111, 116, 70, 111, 117, 110, 100]⟩, ⟨#[84, 67, 80, 77, 68, 53, 85, 110, 101, 120, 112, 101, 99, 116, 101, 100]⟩, ⟨#[84, 67, 80, 77, 68, 53, 70, 97, 105, 108, 117, 114, 101]⟩, ⟨#[84, 67, 80, 83, 97, 99, 107, 83, 104, 105, 102, 116, 101, 100]⟩, ⟨#[84, 67, 80, 83, 97, 99, 107, 77, 101, 114, 103, 101, 100]⟩, ⟨#[84, 67, 80, 83, 97, 99, 107, 83, 104, 105, 102, 116, 70, 97, 108, 108, 98, 97, 99, 107]⟩, ⟨#[84, 67, 80, 66, 97, 99, 107, 108, 111, 103, 68, 114, 111, 112]⟩, ⟨#[80, 70, 77, 101, 109, 97, 108, 108, 111, 99, 68, 114, 111, 112]⟩, ⟨#[84, 67, 80, 77, 105, 110, 84, 84, 76, 68, 114, 111, 112]⟩]
/-- The names of a group. -/
def netNames (g : ByteArray) : List ByteArray := if g.toList = tcpL then tcpNames else ipNames
/-- A number as one of 64 bits with a sign. -/
def sg (n : Int) : Int := IntKind.i64.wrap n
/-- The key at a place is one that the form can say. -/
def FineKey (r : S31) (i : Nat) : Prop :=
  (∃ x ∈ netNames r.f0, x.toList = (r.f2.getD i ⟨#[]⟩).toList) ∧ (∀ j, j < i → (r.f2.getD j ⟨#[]⟩).toList ≠ (r.f2.getD i ⟨#[]⟩).toList) ∧
  (r.f0.toList = tcpL → ∀ x ∈ unreadNames, x.toList ≠ (r.f2.getD i ⟨#[]⟩).toList) ∧ -9007199254740992 ≤ sg (r.f1.getD i 0) ∧ sg (r.f1.getD i 0) ≤ 9007199254740992
/-- A row that the form can say. -/
def FineRow (r : S31) : Prop :=
  (r.f0.toList = tcpL ∨ r.f0.toList = ipL) ∧ 0 < r.f2.length ∧ r.f2.length = r.f1.length ∧ ∀ i, i < r.f2.length → FineKey r i
/-- Rows whose names differ. -/
def Apart31 (l : List S31) : Prop := ∀ a, a < l.length → ∀ b, b < a → (l.getD a z31).f0.toList ≠ (l.getD b z31).f0.toList
/-- Rows that the form can say. -/
def FineRows (l : List S31) : Prop := (∀ j, j < l.length → FineRow (l.getD j z31)) ∧ Apart31 l

theorem within_l0 (a : ByteArray) (l : List ByteArray) (hn : l.length ≤ 1000000) : ∀ m i, i + m = l.length →
    spec_within.l0 (m + 1) a l (l.length : Int) (i : Int) = some ((l.drop i).any (fun x => x.toList == a.toList))
  | 0, i, h => by
    unfold spec_within.l0
    rw [if_neg (by omega), List.drop_eq_nil_of_le (by omega)]
    rfl
  | m + 1, i, h => by
    have ih := within_l0 a l hn m (i + 1) (by omega)
    have hi : i < l.length := by omega
    have e1 : rdOf ByteArray.empty l (i : Int) = l[i] := by rw [rdOf, Int.toNat_natCast]; simp [List.getD_eq_getElem?_getD, hi]
    have w1 : wrap64 ((i : Int) + 1) = ((i + 1 : Nat) : Int) := by unfold wrap64; omega
    unfold spec_within.l0
    rw [if_pos (by omega), if_pos (by omega), if_pos (by omega), e1, w1, List.drop_eq_getElem_cons hi, List.any_cons]
    by_cases c : l[i].toList = a.toList
    · rw [if_pos c, beq_iff_eq.2 c]; rfl
    · rw [if_neg c, ih, beq_eq_false_iff_ne.2 c, Bool.false_or]
set_option maxRecDepth 100000 in
theorem unreadX (a : ByteArray) (w : World) :
    Calls Tryz.prog 26 #[.string a] w fun e w' => e = .returned (.bool (unreadNames.any (fun x => x.toList == a.toList))) ∧ Below w.heap.size w w' := by
  refine spec_unread.calls 20 a _ w ?_
  unfold spec_unread.f spec_within.f
  exact congrArg (Option.bind · _) (within_l0 a unreadNames (by decide) 19 0 (by decide))
theorem namesX (g : ByteArray) (hg : g.toList = tcpL ∨ g.toList = ipL) (w : World) :
    Calls Tryz.prog 25 #[.string g] w fun e w' => ∃ A c, e = .returned (.slice A (netNames g).length c) ∧ Kd.string.C w' A (netNames g).length (netNames g) ∧ Below w.heap.size w w' := by
  have h : spec_snmpNames.f g = some (netNames g) := by
    unfold spec_snmpNames.f netNames
    rcases hg with h | h
    · rw [if_pos h, if_pos h]
    · have h2 : ¬ g.toList = tcpL := by rw [h]; decide
      rw [if_neg h2, if_neg h2, if_pos h]
  refine (spec_snmpNames.calls g _ w h).mono ?_
  rintro e w' ⟨v, rfl, hR, hB⟩
  obtain ⟨A, c, rfl, hl, hC⟩ := Kd.R_reads hR
  exact ⟨A, c, rfl, hC, hB⟩
set_option maxRecDepth 100000 in
theorem netNames_len (g : ByteArray) : (netNames g).length ≤ 123 := by
  unfold netNames
  split <;> decide
theorem any_take {α : Type} (d : α) (p : α → Bool) (l : List α) (k : Nat) (h : k < l.length) : (l.take (k + 1)).any p = ((l.take k).any p || p (l.getD k d)) := by
  rw [List.take_succ_eq_append_getElem h, List.any_append, List.getD_eq_getElem?_getD, List.getElem?_eq_getElem h]
  simp
theorem all_take {α : Type} (d : α) (p : α → Bool) (l : List α) (k : Nat) (h : k < l.length) : (l.take (k + 1)).all p = ((l.take k).all p && p (l.getD k d)) := by
  rw [List.take_succ_eq_append_getElem h, List.all_append, List.getD_eq_getElem?_getD, List.getElem?_eq_getElem h]
  simp
theorem wrap_smallN {i n : Nat} (h : i < n) (hn : n ≤ 9223372036854775807) : wrap64 ((i : Int) + 1) = ((i + 1 : Nat) : Int) := by unfold wrap64; omega
theorem distinct_l0 (l : List S31) (hn : l.length ≤ 9223372036854775807) : ∀ m i, i + m = l.length → ∃ k r, spec_distinct.l0 k l (l.length : Int) (i : Int) = some r ∧ (r = true → ∀ a, i ≤ a → a < l.length → ∀ b, b < a → (l.getD a z31).f0.toList ≠ (l.getD b z31).f0.toList)
  | 0, i, h => ⟨1, true, by unfold spec_distinct.l0; rw [if_neg (by omega)], fun _ a ha hb => absurd hb (by omega)⟩
  | m + 1, i, h => by
    obtain ⟨k, r, he, hr⟩ := distinct_l0 l hn m (i + 1) (by omega)
    have hi : i < l.length := by omega
    have inner : ∀ q j, j + q = i → ∃ k r, spec_distinct.l1 k l (i : Int) (l.length : Int) (i : Int) (i : Int) (j : Int) = some r ∧ (r = true → (∀ b, j ≤ b → b < i → (l.getD i z31).f0.toList ≠ (l.getD b z31).f0.toList) ∧ ∀ a, i + 1 ≤ a → a < l.length → ∀ b, b < a → (l.getD a z31).f0.toList ≠ (l.getD b z31).f0.toList) := by
      intro q
      induction q with
      | zero => intro j hj; exact ⟨k + 1, r, by unfold spec_distinct.l1; rw [if_neg (by omega), wrap_smallN hi hn]; exact he, fun h => ⟨fun b h1 h2 => absurd h1 (by omega), hr h⟩⟩
      | succ q ih =>
        intro j hj
        obtain ⟨k1, r1, he1, hr1⟩ := ih (j + 1) (by omega)
        have e1 : rd_T31 l (i : Int) = l.getD i z31 := by rw [rd_T31, Int.toNat_natCast]
        have e2 : rd_T31 l (j : Int) = l.getD j z31 := by rw [rd_T31, Int.toNat_natCast]
        by_cases c : (l.getD i z31).f0.toList = (l.getD j z31).f0.toList
        · refine ⟨1, false, ?_, fun h => absurd h (by decide)⟩
          unfold spec_distinct.l1
          rw [if_pos (by omega), if_pos (by omega), if_pos (by omega), if_pos (by omega), if_pos (by omega), e1, e2, if_pos c]
        · refine ⟨k1 + 1, r1, ?_, fun h => ⟨fun b h1 h2 => ?_, (hr1 h).2⟩⟩
          · unfold spec_distinct.l1
            rw [if_pos (by omega), if_pos (by omega), if_pos (by omega), if_pos (by omega), if_pos (by omega), e1, e2, if_neg c, wrap_smallN (by omega : j < l.length) hn]
            exact he1
          · by_cases hb : b = j
            · subst hb; exact c
            · exact (hr1 h).1 b (by omega) h2
    obtain ⟨k2, r2, he2, hr2⟩ := inner i 0 (by omega)
    refine ⟨k2 + 1, r2, ?_, fun hh a ha hl b hb => ?_⟩
    · unfold spec_distinct.l0
      rw [if_pos (by omega)]
      exact he2
    · by_cases hab : a = i
      · rw [hab] at hb ⊢; exact (hr2 hh).1 b (Nat.zero_le _) hb
      · exact (hr2 hh).2 a (by omega) hl b hb
theorem distinctX (l : List S31) (A : Option Addr) (c : Nat) (w : World) (hr : Kd.C k31 w A l.length l) (hc : l.length ≤ c) :
    Calls Tryz.prog 27 #[.slice A l.length c] w fun e w' => ∃ b, e = .returned (.bool b) ∧ (b = true → Apart31 l) ∧ Below w.heap.size w w' := by
  obtain ⟨k, r, he, h⟩ := distinct_l0 l hr.2.1 l.length 0 (by omega)
  refine (spec_distinct.calls k A c l r w hr hc he).mono ?_
  rintro e w' ⟨rfl, ⟨n, rfl⟩⟩
  exact ⟨r, rfl, fun hb a ha b hb' => h hb a (Nat.zero_le _) ha b hb', pw_below_drewN (Below.refl _ _) n⟩

end Go.Proofs.YtabfglmpnkgecaaGreatDoor.X

/- groupsFine by contract: which rows the form can say. -/
namespace Go.Proofs.YtabfglmpnkgecaaGreatDoor.X
open Go.RowKit Go.Proofs.YtabfglmpnkgecaaGreatDoorW.PrintWords Go.Proofs.YtabfglmpnkgecaaGreatDoorW.PrintLast Go.Proofs.YtabfglmpnkgecaaGreatDoorW.PrintMore Go.Proofs.YtabfglmpnkgecaaGreatDoor.Q

def netGroups : List ByteArray := [⟨#[84, 99, 112, 69, 120, 116]⟩, ⟨#[73, 112, 69, 120, 116]⟩]

set_option maxHeartbeats 8000000 in
set_option maxRecDepth 100000 in
theorem groupsFine_calls (l : List S31) (A : Option Addr) (c : Nat) (A1 : Option Addr) (c1 : Nat) (w : World) (hr : Kd.C k31 w A l.length l) (hc : l.length ≤ c) (hg : Kd.string.C w A1 2 netGroups) :
    Calls Tryz.prog 13 #[.slice A l.length c, .slice A1 2 c1] w fun e w' => ∃ b, e = .returned (.bool b) ∧ (b = true → FineRows l) ∧ Below w.heap.size w w' := by
  have HR := Aside0.mk hr
  have HLC := Aside0.mk hc
  have hm : l.length ≤ 9223372036854775807 := hr.2.1
  have hu31 := Tryz.underlying31
  have HG := Aside0.mk hg
  clear hr hc hg
  go_enter Tryz.func13, Tryz.ntmps13
  go_wp2
  go_loopw [20] (fun v20 w' => ∃ i : Nat, i ≤ l.length ∧ v20 = .int .i64 i ∧ Aside0 (∀ j, j < i → FineRow (l.getD j z31)) ∧ Aside0 (Below w.heap.size w w')) (fun v20 _ => l.length - (intOf v20).toNat)
  case atStart => exact ⟨0, Nat.zero_le _, rfl, ⟨fun j hj => absurd hj (Nat.not_lt_zero _)⟩, ⟨Below.refl _ _⟩⟩
  case round =>
    obtain ⟨i, hi, rfl, HN, HB⟩ := hrel
    by_cases hlt : i < l.length
    · obtain ⟨ad, A3, c3, A2, c2, e, h0, h1, h2, hl1, hC1, hl2, hC2⟩ := at_T31 HR.out (i : Int) (Int.natCast_nonneg _) (by omega)
      cases e
      rw [Int.toNat_natCast] at h0 h1 h2
      have e0 : rd_T31 l (i : Int) = l.getD i z31 := by rw [rd_T31, Int.toNat_natCast]
      rw [e0] at h0 h1 h2 hl1 hC1 hl2 hC2
      generalize hrr : l.getD i z31 = r at *
      replace hrr := Aside0.mk hrr
      replace h0 := (HB.out.cell (World.block_lt_of_cell? w _ h0)).trans h0
      replace h1 := (HB.out.cell (World.block_lt_of_cell? w _ h1)).trans h1
      replace h2 := (HB.out.cell (World.block_lt_of_cell? w _ h2)).trans h2
      have HC1 := Aside0.mk hC1
      have HC2 := Aside0.mk hC2
      have HL2 := Aside0.mk hl2
      have hm1 : r.f1.length ≤ 9223372036854775807 := hC1.2.1
      have hm2 : r.f2.length ≤ 9223372036854775807 := hC2.2.1
      clear hC1 hl1 hC2 hl2 e0
      go_upto_region 4 with (fail)
      have HK := Aside0.mk (show KeepS wr.heap.size (.cells #[.string r.f0, .slice A3 r.f1.length c3, .slice A2 r.f2.length c2] 31 (0, 0)) w (wr.alloc (.cells #[.string r.f0, .slice A3 r.f1.length c3, .slice A2 r.f2.length c2] 31 (0, 0))) from ⟨blk_new wr _, below_alloc HB.out _⟩)
      clear h0 h1 h2 HB
      generalize wr.alloc (.cells #[.string r.f0, .slice A3 r.f1.length c3, .slice A2 r.f2.length c2] 31 (0, 0)) = W1 at *
      generalize wr.heap.size = g at *
      have k0 : W1.cell? ⟨g, 0, none⟩ = some (.string r.f0) := (blk_cell HK.out.1 0).trans rfl
      have k1 : W1.cell? ⟨g, 1, none⟩ = some (.slice A3 r.f1.length c3) := (blk_cell HK.out.1 1).trans rfl
      have k2 : W1.cell? ⟨g, 2, none⟩ = some (.slice A2 r.f2.length c2) := (blk_cell HK.out.1 2).trans rfl
      go_wp2
      go_loopw [7, 26] (fun v7 v26 w' => ∃ k : Nat, k ≤ 2 ∧ v26 = .int .i64 k ∧ v7 = .bool ((netGroups.take k).any (fun x => x.toList == r.f0.toList)) ∧ w' = W1) (fun _ v26 _ => 2 - (intOf v26).toNat)
      case atStart => exact ⟨0, by omega, rfl, rfl, rfl⟩
      case round =>
        obtain ⟨k, hk, rfl, rfl, rfl⟩ := hrel
        by_cases hk2 : k < 2
        · obtain ⟨a1, ea1, hn⟩ := Kd.at_string (Kd.C_below HG.out HK.out.2) (k : Int) (by omega) (by omega)
          cases ea1
          rw [Int.toNat_natCast] at hn
          have e1 : rdOf ByteArray.empty netGroups (k : Int) = netGroups.getD k ⟨#[]⟩ := by rw [rdOf, Int.toNat_natCast]; rfl
          rw [e1] at hn
          obtain ⟨b1, hb1⟩ : ∃ b, Aside0 ((netGroups.take k).any (fun x => x.toList == r.f0.toList) = b) := ⟨_, ⟨rfl⟩⟩
          obtain ⟨b2, hb2⟩ : ∃ b, ((netGroups.getD k ⟨#[]⟩).toList == r.f0.toList) = b := ⟨_, rfl⟩
          have HE := Aside0.mk (any_take ⟨#[]⟩ (fun x : ByteArray => x.toList == r.f0.toList) netGroups k (show k < 2 from hk2))
          have HE2 : Aside0 ((netGroups.take (k + 1)).any (fun x => x.toList == r.f0.toList) = (b1 || b2)) := ⟨by rw [HE.out, hb1.out, hb2]⟩
          rw [hb1.out]
          clear e1 HE hb1
          generalize netGroups.getD k ⟨#[]⟩ = nm at *
          cases b1
          · go_wp2
            go_roundw
            case measure => simp [intOf]; omega
            case rel => exact ⟨k + 1, by omega, by go_num, by rw [HE2.out, ← hb2]; rfl, by first | rfl | trivial⟩
          · clear hb2
            go_wp2
            go_roundw
            case measure => simp [intOf]; omega
            case rel => exact ⟨k + 1, by omega, by go_num, by rw [HE2.out]; rfl, by first | rfl | trivial⟩
        · obtain rfl : k = 2 := by omega
          have HKN : Aside0 ((netGroups.take 2).any (fun x => x.toList == r.f0.toList) = true → r.f0.toList = tcpL ∨ r.f0.toList = ipL) := ⟨fun h => by
            have hz1 : (⟨#[84, 99, 112, 69, 120, 116]⟩ : ByteArray).toList = [84, 99, 112, 69, 120, 116] := by rw [ByteArray.toList_eq]
            have hz2 : (⟨#[73, 112, 69, 120, 116]⟩ : ByteArray).toList = [73, 112, 69, 120, 116] := by rw [ByteArray.toList_eq]
            simp only [netGroups, List.take, List.any_cons, List.any_nil, Bool.or_false, Bool.or_eq_true, beq_iff_eq, hz1, hz2] at h
            exact h.imp Eq.symm Eq.symm⟩
          generalize (netGroups.take 2).any (fun x => x.toList == r.f0.toList) = bK at *
          cases bK
          · go_wp2
            go_ret
            exact ⟨false, rfl, fun h => absurd h (by decide), HK.out.2⟩
          · have HG := Aside0.mk (HKN.out rfl)
            clear HKN
            obtain ⟨bz, hz⟩ : ∃ x, ((r.f2.length : Int) == 0) = x := ⟨_, rfl⟩
            obtain ⟨bn, hn⟩ : ∃ x, ((r.f2.length : Int) != (r.f1.length : Int)) = x := ⟨_, rfl⟩
            cases bz
            case true =>
              go_wp2
              go_ret
              exact ⟨false, rfl, fun h => absurd h (by decide), HK.out.2⟩
            case false =>
              cases bn
              case true =>
                go_wp2
                go_ret
                exact ⟨false, rfl, fun h => absurd h (by decide), HK.out.2⟩
              case false =>
                have HZ : Aside0 (0 < r.f2.length ∧ r.f2.length = r.f1.length) := ⟨by have := beq_eq_false_iff_ne.1 hz; omega, by have := bne_eq_false_iff_eq.1 hn; omega⟩
                go_wp2
                clear hz hn k0 k1 k2
                go_loopw [58] (fun v58 w' => ∃ m : Nat, m ≤ r.f2.length ∧ v58 = .int .i64 m ∧ Aside0 (∀ j, j < m → FineKey r j) ∧ Aside0 (KeepS g (.cells #[.string r.f0, .slice A3 r.f1.length c3, .slice A2 r.f2.length c2] 31 (0, 0)) w w')) (fun v58 _ => r.f2.length - (intOf v58).toNat)
                case atStart => exact ⟨0, by omega, rfl, ⟨fun j hj => absurd hj (Nat.not_lt_zero _)⟩, HK⟩
                case round =>
                  clear HK
                  obtain ⟨m, hmle, rfl, HF, HK⟩ := hrel
                  by_cases hlt2 : m < r.f2.length
                  · obtain ⟨a2, ea2, hs⟩ := Kd.at_string (Kd.C_below HC2.out HK.out.2) (m : Int) (by omega) (by omega)
                    cases ea2
                    rw [Int.toNat_natCast] at hs
                    have e1 : rdOf ByteArray.empty r.f2 (m : Int) = r.f2.getD m ⟨#[]⟩ := by rw [rdOf, Int.toNat_natCast]; rfl
                    rw [e1] at hs
                    clear e1
                    generalize hss : r.f2.getD m ⟨#[]⟩ = s at *
                    replace hss := Aside0.mk hss
                    obtain ⟨a3, n3, ea3, hv⟩ : ∃ a3 n3, A3 = some a3 ∧ wr.cell? (a3.add m) = some (.int .u64 n3) ∧ n3 = r.f1.getD m 0 := by
                      obtain ⟨a3, ea3, h⟩ := Kd.at_int (Kd.C_below HC1.out HK.out.2) (m : Int) (by omega) (by have := HZ.out; omega)
                      rw [Int.toNat_natCast] at h
                      exact ⟨a3, _, ea3, h, by rw [rd, Int.toNat_natCast]⟩
                    cases ea3
                    have HV := Aside0.mk hv.2
                    replace hv := hv.1
                    have k0 : wr.cell? ⟨g, 0, none⟩ = some (.string r.f0) := (blk_cell HK.out.1 0).trans rfl
                    go_wp2_with (go_at_call 25; refine (namesX r.f0 HG.out _).mono ?_; rintro e w3 ⟨A4, c4, rfl, hC4, hB4⟩; have HC4 := Aside0.mk hC4; have HK3 := Aside0.mk (HK.out.below hB4); have HB4 := Aside0.mk hB4; clear hC4 hB4)
                    replace hs : w3.cell? (a2.add m) = some (.string s) := (HB4.out.cell (World.block_lt_of_cell? wr _ hs)).trans hs
                    replace hv : w3.cell? (a3.add m) = some (.int .u64 n3) := (HB4.out.cell (World.block_lt_of_cell? wr _ hv)).trans hv
                    clear k0 HB4 HK
                    have hnl : (netNames r.f0).length ≤ 123 := netNames_len r.f0
                    go_loopw [12, 67] (fun v12 v67 w' => ∃ k : Nat, k ≤ (netNames r.f0).length ∧ v67 = .int .i64 k ∧ v12 = .bool (((netNames r.f0).take k).any (fun x => x.toList == s.toList)) ∧ w' = w3) (fun _ v67 _ => (netNames r.f0).length - (intOf v67).toNat)
                    case atStart => exact ⟨0, by omega, rfl, rfl, rfl⟩
                    case round =>
                      obtain ⟨k, hk, rfl, rfl, rfl⟩ := hrel
                      by_cases hk2 : k < (netNames r.f0).length
                      · obtain ⟨a4, ea4, hn4⟩ := Kd.at_string HC4.out (k : Int) (by omega) (by omega)
                        cases ea4
                        rw [Int.toNat_natCast] at hn4
                        have e1 : rdOf ByteArray.empty (netNames r.f0) (k : Int) = (netNames r.f0).getD k ⟨#[]⟩ := by rw [rdOf, Int.toNat_natCast]; rfl
                        rw [e1] at hn4
                        obtain ⟨b1, hb1⟩ : ∃ b, Aside0 (((netNames r.f0).take k).any (fun x => x.toList == s.toList) = b) := ⟨_, ⟨rfl⟩⟩
                        obtain ⟨b2, hb2⟩ : ∃ b, (((netNames r.f0).getD k ⟨#[]⟩).toList == s.toList) = b := ⟨_, rfl⟩
                        have HE := Aside0.mk (any_take ⟨#[]⟩ (fun x : ByteArray => x.toList == s.toList) (netNames r.f0) k hk2)
                        have HE2 : Aside0 (((netNames r.f0).take (k + 1)).any (fun x => x.toList == s.toList) = (b1 || b2)) := ⟨by rw [HE.out, hb1.out, hb2]⟩
                        rw [hb1.out]
                        clear e1 HE hb1
                        generalize (netNames r.f0).getD k ⟨#[]⟩ = nm at *
                        cases b1
                        · go_wp2
                          go_roundw
                          case measure => simp [intOf]; omega
                          case rel => exact ⟨k + 1, by omega, by go_num, by rw [HE2.out, ← hb2]; rfl, by first | rfl | trivial⟩
                        · clear hb2
                          go_wp2
                          go_roundw
                          case measure => simp [intOf]; omega
                          case rel => exact ⟨k + 1, by omega, by go_num, by rw [HE2.out]; rfl, by first | rfl | trivial⟩
                      · obtain rfl : k = (netNames r.f0).length := by omega
                        rw [List.take_of_length_le (Nat.le_refl _)]
                        have HT : Aside0 ((netNames r.f0).any (fun x => x.toList == s.toList) = true → ∃ x ∈ netNames r.f0, x.toList = s.toList) := ⟨fun h => by
                          obtain ⟨x, hx, he⟩ := List.any_eq_true.1 h
                          exact ⟨x, hx, beq_iff_eq.1 he⟩⟩
                        generalize (netNames r.f0).any (fun x => x.toList == s.toList) = bT at *
                        have k2 : wr.cell? ⟨g, 2, none⟩ = some (.slice (some a2) r.f2.length c2) := (blk_cell HK3.out.1 2).trans rfl
                        have hml : (m : Int) ≤ (c2 : Int) := by have := HL2.out; omega
                        have hmn : m ≤ c2 := by have := HL2.out; omega
                        go_upto_region 22 with (fail)
                        clear k2
                        go_wp2
                        clear hml hmn
                        go_loopw [12, 83] (fun v12 v83 w' => ∃ k : Nat, k ≤ m ∧ v83 = .int .i64 k ∧ v12 = .bool (bT && (r.f2.take k).all (fun x => x.toList != s.toList)) ∧ w' = wr) (fun _ v83 _ => m - (intOf v83).toNat)
                        case atStart => exact ⟨0, by omega, rfl, by simp, rfl⟩
                        case round =>
                          obtain ⟨k, hk, rfl, rfl, rfl⟩ := hrel
                          by_cases hk2 : k < m
                          · obtain ⟨a5, ea5, hn5⟩ := Kd.at_string (Kd.C_below HC2.out HK3.out.2) (k : Int) (by omega) (by omega)
                            cases ea5
                            rw [Int.toNat_natCast] at hn5
                            have e1 : rdOf ByteArray.empty r.f2 (k : Int) = r.f2.getD k ⟨#[]⟩ := by rw [rdOf, Int.toNat_natCast]; rfl
                            rw [e1] at hn5
                            obtain ⟨b1, hb1⟩ : ∃ b, Aside0 ((bT && (r.f2.take k).all (fun x => x.toList != s.toList)) = b) := ⟨_, ⟨rfl⟩⟩
                            obtain ⟨b2, hb2⟩ : ∃ b, ((r.f2.getD k ⟨#[]⟩).toList != s.toList) = b := ⟨_, rfl⟩
                            have HE := Aside0.mk (all_take ⟨#[]⟩ (fun x : ByteArray => x.toList != s.toList) r.f2 k (by omega))
                            have HE2 : Aside0 ((bT && (r.f2.take (k + 1)).all (fun x => x.toList != s.toList)) = (b1 && b2)) := ⟨by rw [HE.out, ← hb1.out, hb2, Bool.and_assoc]⟩
                            rw [hb1.out]
                            clear e1 HE hb1
                            generalize r.f2.getD k ⟨#[]⟩ = nm at *
                            cases b1
                            · clear hb2
                              go_wp2
                              go_roundw
                              case measure => simp [intOf]; omega
                              case rel => exact ⟨k + 1, by omega, by go_num, by rw [HE2.out]; rfl, by first | rfl | trivial⟩
                            · go_wp2
                              go_roundw
                              case measure => simp [intOf]; omega
                              case rel => exact ⟨k + 1, by omega, by go_num, by rw [HE2.out, ← hb2]; rfl, by first | rfl | trivial⟩
                          · obtain rfl : k = m := by omega
                            have HT2 : Aside0 ((bT && (r.f2.take k).all (fun x => x.toList != s.toList)) = true → (∃ x ∈ netNames r.f0, x.toList = s.toList) ∧ ∀ j, j < k → (r.f2.getD j ⟨#[]⟩).toList ≠ s.toList) := ⟨fun h => by
                              rw [Bool.and_eq_true] at h
                              refine ⟨HT.out h.1, fun j hj => ?_⟩
                              have h2 := List.all_eq_true.1 h.2 (r.f2.getD j ⟨#[]⟩) (by
                                rw [List.getD_eq_getElem?_getD, List.getElem?_eq_getElem (by omega)]
                                exact List.mem_take_iff_getElem.2 ⟨j, by omega, rfl⟩)
                              exact bne_iff_ne.1 h2⟩
                            clear HT
                            generalize (bT && (r.f2.take k).all (fun x => x.toList != s.toList)) = bF at *
                            have k0 : wr.cell? ⟨g, 0, none⟩ = some (.string r.f0) := (blk_cell HK3.out.1 0).trans rfl
                            have k1 : wr.cell? ⟨g, 1, none⟩ = some (.slice (some a3) r.f1.length c3) := (blk_cell HK3.out.1 1).trans rfl
                            have hk1 : (k : Int) < (r.f1.length : Int) := by have := HZ.out; omega
                            cases bF
                            · go_wp2_with fail
                              go_ret
                              exact ⟨false, rfl, fun h => absurd h (by decide), HK3.out.2⟩
                            · obtain ⟨v, hvv⟩ : ∃ v, IntKind.i64.wrap n3 = v := ⟨_, rfl⟩
                              obtain ⟨bU, hU⟩ : ∃ x, Aside0 (unreadNames.any (fun x => x.toList == s.toList) = x) := ⟨_, ⟨rfl⟩⟩
                              obtain ⟨bG, hG⟩ : ∃ x, (r.f0.toList == [84, 99, 112, 69, 120, 116]) = x := ⟨_, rfl⟩
                              have HGG := Aside0.mk hG
                              have HVV := Aside0.mk hvv
                              by_cases hb1 : 9007199254740992 < v
                              · cases bG
                                · go_wp2_with fail
                                  go_ret
                                  first | exact ⟨false, rfl, fun h => absurd h (by decide), HK3.out.2⟩ | exact .inl ⟨rfl, HK3.out.2⟩
                                · cases bU
                                  · go_wp2_with (go_at_call 26; refine (unreadX s _).mono ?_; rintro e w4 ⟨he, hB4⟩; rw [hU.out] at he; subst he; have HK4 := Aside0.mk (HK3.out.below hB4); clear hB4)
                                    go_ret
                                    first | exact ⟨false, rfl, fun h => absurd h (by decide), HK4.out.2⟩ | exact .inl ⟨rfl, HK4.out.2⟩
                                  · go_wp2_with (go_at_call 26; refine (unreadX s _).mono ?_; rintro e w4 ⟨he, hB4⟩; rw [hU.out] at he; subst he; have HK4 := Aside0.mk (HK3.out.below hB4); clear hB4)
                                    go_ret
                                    first | exact ⟨false, rfl, fun h => absurd h (by decide), HK4.out.2⟩ | exact .inl ⟨rfl, HK4.out.2⟩
                              · by_cases hb2 : v < -9007199254740992
                                · cases bG
                                  · go_wp2_with fail
                                    go_ret
                                    first | exact ⟨false, rfl, fun h => absurd h (by decide), HK3.out.2⟩ | exact .inl ⟨rfl, HK3.out.2⟩
                                  · cases bU
                                    · go_wp2_with (go_at_call 26; refine (unreadX s _).mono ?_; rintro e w4 ⟨he, hB4⟩; rw [hU.out] at he; subst he; have HK4 := Aside0.mk (HK3.out.below hB4); clear hB4)
                                      go_ret
                                      first | exact ⟨false, rfl, fun h => absurd h (by decide), HK4.out.2⟩ | exact .inl ⟨rfl, HK4.out.2⟩
                                    · go_wp2_with (go_at_call 26; refine (unreadX s _).mono ?_; rintro e w4 ⟨he, hB4⟩; rw [hU.out] at he; subst he; have HK4 := Aside0.mk (HK3.out.below hB4); clear hB4)
                                      go_ret
                                      first | exact ⟨false, rfl, fun h => absurd h (by decide), HK4.out.2⟩ | exact .inl ⟨rfl, HK4.out.2⟩
                                · cases bG
                                  · go_wp2_with fail
                                    go_roundw
                                    case measure => simp [intOf]; omega
                                    case rel => exact ⟨_, _, _, _, _, _, _, _, ⟨k + 1, by omega, rfl, ⟨fun j hj => by rcases Nat.lt_or_ge j k with h | h; exact HF.out j h; (obtain rfl : j = k := by omega); refine ⟨?_, ?_, ?_, ?_, ?_⟩; (rw [hss.out]; exact (HT2.out (by first | rfl | trivial)).1); (rw [hss.out]; exact (HT2.out (by first | rfl | trivial)).2); (rw [hss.out]; exact fun h => absurd h (beq_eq_false_iff_ne.1 HGG.out)); (rw [← HV.out]; show _ ≤ IntKind.i64.wrap n3; rw [HVV.out]; omega); (rw [← HV.out]; show IntKind.i64.wrap n3 ≤ _; rw [HVV.out]; omega)⟩⟩, rfl, rfl, rfl, rfl, rfl, rfl, rfl, by simp⟩
                                  · cases bU
                                    · go_wp2_with (go_at_call 26; refine (unreadX s _).mono ?_; rintro e w4 ⟨he, hB4⟩; rw [hU.out] at he; subst he; have HK4 := Aside0.mk (HK3.out.below hB4); clear hB4)
                                      go_roundw
                                      case measure => simp [intOf]; omega
                                      case rel =>
                                        repeat (with_reducible apply Exists.intro)
                                        refine ⟨?_, rfl⟩
                                        exact ⟨k + 1, by omega, by go_num, ⟨fun j hj => by rcases Nat.lt_or_ge j k with h | h; exact HF.out j h; (obtain rfl : j = k := by omega); refine ⟨?_, ?_, ?_, ?_, ?_⟩; (rw [hss.out]; exact (HT2.out (by first | rfl | trivial)).1); (rw [hss.out]; exact (HT2.out (by first | rfl | trivial)).2); (rw [hss.out]; exact fun _ x hx => (fun he => (List.any_eq_false.1 hU.out x hx) (beq_iff_eq.2 he))); (rw [← HV.out]; show _ ≤ IntKind.i64.wrap n3; rw [HVV.out]; omega); (rw [← HV.out]; show IntKind.i64.wrap n3 ≤ _; rw [HVV.out]; omega)⟩, HK4⟩
                                    · go_wp2_with (go_at_call 26; refine (unreadX s _).mono ?_; rintro e w4 ⟨he, hB4⟩; rw [hU.out] at he; subst he; have HK4 := Aside0.mk (HK3.out.below hB4); clear hB4)
                                      go_ret
                                      first | exact ⟨false, rfl, fun h => absurd h (by decide), HK4.out.2⟩ | exact .inl ⟨rfl, HK4.out.2⟩
                  · go_wp2
                    go_roundw
                    case measure => simp [intOf]; omega
                    case rel => exact ⟨i + 1, by omega, by go_num, ⟨fun j hj => by rcases Nat.lt_or_ge j i with h | h; exact HN.out j h; (obtain rfl : j = i := by omega); rw [hrr.out]; exact ⟨HG.out, HZ.out.1, HZ.out.2, fun q hq => HF.out q (by omega)⟩⟩, ⟨HK.out.2⟩⟩
    · go_wp2_with fail
      refine (distinctX l A c wr (Kd.C_below HR.out HB.out) HLC.out).mono ?_
      rintro e w' ⟨b, rfl, hb, hB⟩
      have Hb := Aside0.mk hb
      have HB' := Aside0.mk hB
      clear hb hB
      go_wp2_with fail
      go_ret
      exact ⟨b, rfl, fun h => ⟨fun j hj => HN.out j (by omega), Hb.out h⟩, below_step HB.out HB'.out⟩
end Go.Proofs.YtabfglmpnkgecaaGreatDoor.X
