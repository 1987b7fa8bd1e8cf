-- Written by a program of this claim's session (after the kit's print, with a kind for float64). Lean checks it.
import Derived.Test.YtabfglmpnkgecaaGreatDoorM01
set_option linter.unusedVariables false
set_option linter.unusedSimpArgs false
namespace Go.Proofs.YtabfglmpnkgecaaGreatDoor.Q
open Go.RowKit Go.Proofs.YtabfglmpnkgecaaGreatDoorW.PrintWords Go.Proofs.YtabfglmpnkgecaaGreatDoorW.PrintLast Go.Proofs.YtabfglmpnkgecaaGreatDoorW.PrintMore
attribute [local go_sem] max2_int min2_int max_two min_two max_three min_three max_four min_four   -- for this text's walks alone
set_option linter.unusedVariables false
set_option linter.unusedSimpArgs false

/-! ### spec_Digits: function 200 -/
def spec_Digits.f : Nat → Int → Int → Option (ByteArray)
  | 0, _, _ => none
  | k + 1, a0, a1 => if a1 = 0 then (none) else (if 0 ≤ (Int.tmod a0 a1) then (if (Int.tmod a0 a1) < 16 then (if a0 < a1 then (some (strOfNums (([bt (⟨#[48, 49, 50, 51, 52, 53, 54, 55, 56, 57, 97, 98, 99, 100, 101, 102]⟩ : ByteArray) (Int.tmod a0 a1)] : List Int)))) else ((spec_Digits.f k (IntKind.u64.wrap (Int.tdiv a0 a1)) a1).bind fun t169 => ((some (([bt (⟨#[48, 49, 50, 51, 52, 53, 54, 55, 56, 57, 97, 98, 99, 100, 101, 102]⟩ : ByteArray) (Int.tmod a0 a1)] : List Int) : List Int)).bind fun y170 => (if t169.size + (strOfNums y170).size ≤ 9223372036854775807 then (some (t169 ++ (strOfNums y170))) else (none))))) else (none)) else (none))
theorem spec_Digits.mono_l : ∀ k, (∀ y0 y1, LeO (spec_Digits.f k y0 y1) (spec_Digits.f (k + 1) y0 y1))
  | 0 => fun _ _ r h => by simp [spec_Digits.f] at h
  | k + 1 => by
    have ih0 := spec_Digits.mono_l k
    · intro y0 y1
      unfold spec_Digits.f
      repeat' first
      | (with_reducible exact ih0 _ _)
      | (with_reducible exact LeO.refl _)
      | (with_reducible exact LeO.none _)
      | (with_reducible refine LeO.ite ?_ ?_)
      | (with_reducible refine LeO.bind ?_ (fun _ => ?_))
      | exact ih0 _ _
      | exact LeO.none _
      | refine LeO.ite ?_ ?_
      | refine LeO.bind ?_ (fun _ => ?_)
theorem spec_Digits.mono : ∀ a0 a1 k, LeO (spec_Digits.f k a0 a1) (spec_Digits.f (k + 1) a0 a1) := by
  intro a0 a1 k
  have ih0 := spec_Digits.mono_l k
  exact ih0 a0 a1
def spec_Digits.T4 : Bool × List (List Nat × List Nat) := (true, [([], []), ([], []), ([0, 1], [0, 1]), ([], []), ([2, 3], [2, 3]), ([], []), ([5], [5]), ([6], [6]), ([4, 7], [4, 7]), ([8, 4, 0, 1, 2, 3, 4, 5, 6, 7, 8], [8])])
def spec_Digits.B4 : List Nat := [0, 0, 3, 0, 15, 0, 32, 96, 255, 511]
theorem spec_Digits.tab4 : rtab .any (opsOf Tryz.f200 4) = spec_Digits.T4 := by kernel_rfl
theorem spec_Digits.bits4 : waitsOk spec_Digits.T4.2 spec_Digits.B4 = true := by kernel_rfl
set_option maxHeartbeats 8000000 in
set_option maxRecDepth 100000 in
theorem spec_Digits.calls (k : Nat) : ∀ (a0 : Int) (a1 : Int) (r : ByteArray) (w : World) (h : spec_Digits.f k a0 a1 = some r),
    Calls Tryz.prog 200 #[.int .u64 a0, .int .u64 a1] w fun e w' => e = .returned (.string r) ∧ Below w.heap.size w w' := by
  induction k using Nat.strongRecOn with
  | _ k ih =>
  intro a0 a1 r w h
  cases k with
  | zero => exact absurd h (by simp [spec_Digits.f])
  | succ k =>
  simp only [spec_Digits.f] at h
  have HB := Aside0.mk (Below.refl w.heap.size w)
  have H : (if a1 = 0 then (none) else (if 0 ≤ (Int.tmod a0 a1) then (if (Int.tmod a0 a1) < 16 then (if a0 < a1 then (some (strOfNums (([bt (⟨#[48, 49, 50, 51, 52, 53, 54, 55, 56, 57, 97, 98, 99, 100, 101, 102]⟩ : ByteArray) (Int.tmod a0 a1)] : List Int)))) else ((spec_Digits.f k (IntKind.u64.wrap (Int.tdiv a0 a1)) a1).bind fun t169 => ((some (([bt (⟨#[48, 49, 50, 51, 52, 53, 54, 55, 56, 57, 97, 98, 99, 100, 101, 102]⟩ : ByteArray) (Int.tmod a0 a1)] : List Int) : List Int)).bind fun y170 => (if t169.size + (strOfNums y170).size ≤ 9223372036854775807 then (some (t169 ++ (strOfNums y170))) else (none))))) else (none)) else (none))) = some r := h
  clear h
  by_cases c3 : a1 = 0
  · rw [if_pos c3] at H
    exact absurd H (by simp)
  · rw [if_neg c3] at H
    have c3b0 : (a1 == 0) = false := beq_eq_false_iff_ne.mpr c3
    have c3b1 : (a1 != 0) = true := bne_iff_ne.mpr c3
    obtain ⟨ji4, hji4⟩ : ∃ j_ : Int, (Int.tmod a0 a1) = j_ := ⟨_, rfl⟩
    replace H : (if 0 ≤ (ji4) then (if (ji4) < 16 then (if a0 < a1 then (some (strOfNums (([bt (⟨#[48, 49, 50, 51, 52, 53, 54, 55, 56, 57, 97, 98, 99, 100, 101, 102]⟩ : ByteArray) (ji4)] : List Int)))) else ((spec_Digits.f k (IntKind.u64.wrap (Int.tdiv a0 a1)) a1).bind fun t169 => ((some (([bt (⟨#[48, 49, 50, 51, 52, 53, 54, 55, 56, 57, 97, 98, 99, 100, 101, 102]⟩ : ByteArray) (ji4)] : List Int) : List Int)).bind fun y170 => (if t169.size + (strOfNums y170).size ≤ 9223372036854775807 then (some (t169 ++ (strOfNums y170))) else (none))))) else (none)) else (none)) = some r := by first | (rw [hji4] at H; exact H) | (simp only [hji4] at H ⊢; exact H)
    by_cases c5 : 0 ≤ (ji4)
    · rw [if_pos c5] at H
      have c5b0 : decide (0 ≤ (ji4)) = true := decide_eq_true c5
      clear c5
      by_cases c6 : (ji4) < 16
      · rw [if_pos c6] at H
        have c6b0 : decide ((ji4) < 16) = true := decide_eq_true c6
        clear c6
        by_cases c8 : a0 < a1
        · rw [if_pos c8] at H
          have c8b0 : decide (a0 < a1) = true := decide_eq_true c8
          clear c8
          obtain ⟨y166, hy166⟩ : ∃ y_ : List Int, y_ = (([bt (⟨#[48, 49, 50, 51, 52, 53, 54, 55, 56, 57, 97, 98, 99, 100, 101, 102]⟩ : ByteArray) (ji4)] : List Int)) := ⟨_, rfl⟩
          replace H : (some (strOfNums y166)) = some r := by first | (rw [hy166]; with_reducible exact H) | (have H2_ := (Option.bind_some _ _).symm.trans H; rw [hy166]; with_reducible exact H2_) | (have H2_ := (Option.bind_some _ _).symm.trans H; with_reducible exact H2_) | with_reducible exact H | (rw [hy166]; exact H) | exact H
          have Ny166 := Aside0.mk hy166
          clear hy166
          obtain rfl := Option.some.inj H
          have p7 : 0 ≤ ((ji4) : Int) := of_decide_eq_true (by first | (with_reducible assumption) | assumption)
          have q7 : (ji4) < (16 : Int) := of_decide_eq_true (by first | (with_reducible assumption) | assumption)
          have hx7 := bt_at (⟨#[48, 49, 50, 51, 52, 53, 54, 55, 56, 57, 97, 98, 99, 100, 101, 102]⟩ : ByteArray) (ji4)
          replace p7 := eq_true p7
          replace q7 := eq_true q7
          go_enter Tryz.func200, Tryz.ntmps200
          go_wp2_with (first | ((with_reducible refine gate_dst (N := 14) rfl ?_); refine Kd.R_lit (Kd.int .u8) _ 5 ?hg (N := 14) ?hd (xs := ([bt (⟨#[48, 49, 50, 51, 52, 53, 54, 55, 56, 57, 97, 98, 99, 100, 101, 102]⟩ : ByteArray) (ji4)] : List Int)) (inner := [.int .u8 (bt (⟨#[48, 49, 50, 51, 52, 53, 54, 55, 56, 57, 97, 98, 99, 100, 101, 102]⟩ : ByteArray) (ji4))]) (ok := fun _ => True) (okp := fun _ => True) ?hr ?hp (fun _ hk => hk) trivial (Below.refl _ _) (Nat.le_refl _) (by simp) ?_; (case hd => rfl); (case hg => rfl); (case hr => first | (go_simp; done) | (go_simp; rfl)); (case hp => exact (Reps.one (show Kd.M (Kd.int .u8) _ _ _ (bt (⟨#[48, 49, 50, 51, 52, 53, 54, 55, 56, 57, 97, 98, 99, 100, 101, 102]⟩ : ByteArray) (ji4)) [.int .u8 (bt (⟨#[48, 49, 50, 51, 52, 53, 54, 55, 56, 57, 97, 98, 99, 100, 101, 102]⟩ : ByteArray) (ji4))] from rfl) (Reps.none _ _))); intro v167 w9 ho10 hb hg_ hnew_; clear hg_ hnew_; (first | rw [← Ny166.out] at ho10 | (simp only [Int.reduceToNat] at ho10; rw [← Ny166.out] at ho10)); have n0_ := Aside0.mk (Kd.R_lower ho10 (below_size (by repeat (first | (with_reducible first | exact HB.out | apply below_alloc | apply pw_below_drewN | apply below_drew1) | exact HB.out)))); have n1_ := Aside0.mk (below_step (by repeat (first | (with_reducible first | exact HB.out | apply below_alloc | apply pw_below_drewN | apply below_drew1) | exact HB.out)) hb); clear HB; have HO168 := n0_; have HB := n1_; clear n0_ n1_; clear hb ho10; have hcv11 := own_string (P := Tryz.prog) Tryz.underlying82 Tryz.underlying5 Tryz.underlying9 (Kd.own_of_R HO168.out)))
          go_ret
          exact ⟨by first | rfl | (simp [errW_none, errW_some] <;> rfl) | (simp only [← hji4]; first | rfl | (simp [errW_none, errW_some] <;> rfl)) | (simp [*, errW_none, errW_some] <;> rfl), by repeat (first | (with_reducible first | exact HB.out | apply below_alloc | apply pw_below_drewN | apply below_drew1) | exact HB.out)⟩
        · rw [if_neg c8] at H
          have c8b0 : decide (a0 < a1) = false := decide_eq_false c8
          clear c8
          replace H := Option.bind_eq_some_iff.mp H
          obtain ⟨t169, A120, H⟩ := H
          replace H : ((some (([bt (⟨#[48, 49, 50, 51, 52, 53, 54, 55, 56, 57, 97, 98, 99, 100, 101, 102]⟩ : ByteArray) (ji4)] : List Int) : List Int)).bind fun y170 => (if t169.size + (strOfNums y170).size ≤ 9223372036854775807 then (some (t169 ++ (strOfNums y170))) else (none))) = some r := H
          have A12 := Aside0.mk A120
          clear A120
          obtain ⟨y170, hy170⟩ : ∃ y_ : List Int, y_ = (([bt (⟨#[48, 49, 50, 51, 52, 53, 54, 55, 56, 57, 97, 98, 99, 100, 101, 102]⟩ : ByteArray) (ji4)] : List Int)) := ⟨_, rfl⟩
          replace H : (if t169.size + (strOfNums y170).size ≤ 9223372036854775807 then (some (t169 ++ (strOfNums y170))) else (none)) = some r := by first | (rw [hy170]; with_reducible exact H) | (have H2_ := (Option.bind_some _ _).symm.trans H; rw [hy170]; with_reducible exact H2_) | (have H2_ := (Option.bind_some _ _).symm.trans H; with_reducible exact H2_) | with_reducible exact H | (rw [hy170]; exact H) | exact H
          have Ny170 := Aside0.mk hy170
          clear hy170
          by_cases c13 : t169.size + (strOfNums y170).size ≤ 9223372036854775807
          · rw [if_pos c13] at H
            have c13b0 := eq_true c13
            have c13b1 : decide (t169.size + (strOfNums y170).size ≤ 9223372036854775807) = true := decide_eq_true c13
            try have c13b2 : (9223372036854775807 < t169.size + (strOfNums y170).size) = False := eq_false (Nat.not_lt.2 c13)
            obtain rfl := Option.some.inj H
            have p7 : 0 ≤ ((ji4) : Int) := of_decide_eq_true (by first | (with_reducible assumption) | assumption)
            have q7 : (ji4) < (16 : Int) := of_decide_eq_true (by first | (with_reducible assumption) | assumption)
            have hx7 := bt_at (⟨#[48, 49, 50, 51, 52, 53, 54, 55, 56, 57, 97, 98, 99, 100, 101, 102]⟩ : ByteArray) (ji4)
            replace p7 := eq_true p7
            replace q7 := eq_true q7
            go_enter Tryz.func200, Tryz.ntmps200
            try go_wp2
            have n0_ := Aside0.mk (below_drew1 HB.out)
            clear HB
            have HB := n0_
            clear n0_
            refine start_ (n := 10) (S := fun w' => True) (ds := []) #[false, false, false, false, false, false, false, false, false, false] (by kernel_rfl) rfl rfl trivial (fun hHeld => ?_); refine with_tabW spec_Digits.tab4 spec_Digits.bits4 (fun HT_ HW_ => ?_)
            generalize w.drew = w14 at HB hHeld ⊢
            refine pure_ (i := 0) (N := some 16) (v := ?_) (a' := ?_) #[true, false, false, false, false, false, false, false, false, false] rfl rfl (any_of HT_.out (by kernel_rfl)) (fun _ _ _ h => h) (Or.inl ⟨by rfl, ?_⟩) ?_ ?_
            rotate_left
            · intro w'
              go_simp
              with_reducible rfl
            rotate_left
            · simp only [Act.put, List.setIfInBounds_toArray, List.set_cons_zero, List.set_cons_succ, i64_w, i32_w]
              rfl
            refine pure_ (i := 1) (N := some 17) (v := ?_) (a' := ?_) #[true, true, false, false, false, false, false, false, false, false] rfl rfl (any_of HT_.out (by kernel_rfl)) (fun _ _ _ h => h) (Or.inl ⟨by rfl, ?_⟩) ?_ ?_
            rotate_left
            · intro w'
              go_simp
              with_reducible rfl
            rotate_left
            · simp only [Act.put, List.setIfInBounds_toArray, List.set_cons_zero, List.set_cons_succ, i64_w, i32_w]
              rfl
            refine pure_ (i := 2) (N := some 18) (v := ?_) (a' := ?_) #[true, true, true, false, false, false, false, false, false, false] rfl rfl (any_of HT_.out (by kernel_rfl)) (fun _ _ _ h => h) (Or.inl ⟨by rfl, ?_⟩) ?_ ?_
            rotate_left
            · intro w'
              go_simp
              with_reducible rfl
            rotate_left
            · simp only [Act.put, List.setIfInBounds_toArray, List.set_cons_zero, List.set_cons_succ, i64_w, i32_w]
              rfl
            refine pure_ (i := 3) (N := some 19) (v := ?_) (a' := ?_) #[true, true, true, true, false, false, false, false, false, false] rfl rfl (any_of HT_.out (by kernel_rfl)) (fun _ _ _ h => h) (Or.inl ⟨by rfl, ?_⟩) ?_ ?_
            rotate_left
            · intro w'
              go_simp
              with_reducible rfl
            rotate_left
            · simp only [Act.put, List.setIfInBounds_toArray, List.set_cons_zero, List.set_cons_succ, i64_w, i32_w]
              rfl
            refine pure_ (i := 5) (N := some 21) (v := ?_) (a' := ?_) #[true, true, true, true, false, true, false, false, false, false] rfl rfl (any_of HT_.out (by kernel_rfl)) (fun _ _ _ h => h) (Or.inl ⟨by rfl, ?_⟩) ?_ ?_
            rotate_left
            · intro w'
              go_simp
              with_reducible rfl
            rotate_left
            · simp only [Act.put, List.setIfInBounds_toArray, List.set_cons_zero, List.set_cons_succ, i64_w, i32_w]
              rfl
            refine join_ (σ := Value) 2 #[true, true, true, true, true, true, true, true, false, false] (fun s_ => [(20, .string t169), (22, s_), (23, .string (strOfNums y170))]) (fun s_ w' => (Kd.R (Kd.int .u8) 5 w' w.heap.size (fun _ => True) s_ y170) ∧ (Below w.heap.size w w')) ?_ ?_
            rotate_left
            · intro hCont
              refine two_ (i := 4) (j := 6) (Ni := some 20) (Nj := some 22) #[true, true, true, true, true, true, false, false, false, false] #[true, true, true, true, false, true, true, false, false, false] rfl rfl rfl rfl (two_of HT_.out (by kernel_rfl)) (by decide) (by decide) (fun K hK => ?_) (fun K hK => ?_)
              · skip
                refine goes_ Tryz.func200 (by kernel_rfl) rfl #[.int .u64 (IntKind.u64.wrap (Int.tdiv a0 a1)), .int .u64 a1] (by rfl) rfl rfl (by (try simp only [List.map_toArray, List.map_cons, List.map_nil]); first | done | rfl | (simp only [List.length_drop, List.length_take]; rfl)) ?_
                with_reducible refine (ih k (by omega) (IntKind.u64.wrap (Int.tdiv a0 a1)) a1 t169 _ A12.out).mono ?_
                rintro e w15 ⟨rfl, hb⟩
                refine ⟨_, rfl, ?_⟩
                have n0_ := Aside0.mk (below_step (by repeat (first | (with_reducible first | exact HB.out | apply below_alloc | apply pw_below_drewN | apply below_drew1) | exact HB.out)) hb)
                clear HB
                have HB := n0_
                clear n0_
                (try clear hb)
                (try clear hb2)
                (try clear hk)
                (try clear hi)
                refine hK.out _ _ trivial (fun hHeld => ?_)
                clear hK K
                refine norm_ (a' := ?_) ?_ ?_
                rotate_left
                · show Act.put _ (some 20) _ = _
                  simp only [Act.put, List.setIfInBounds_toArray, List.set_cons_zero, List.set_cons_succ, i64_w, i32_w]
                  rfl
                refine one_ (i := 6) (N := some 22) #[true, true, true, true, true, true, true, false, false, false] rfl rfl (one_of HT_.out (by kernel_rfl)) (by decide) (fun K hK => ?_)
                refine Kd.R_lit_step (Kd.int .u8) _ 5 ?hg (N := 22) ?hd (xs := ([bt (⟨#[48, 49, 50, 51, 52, 53, 54, 55, 56, 57, 97, 98, 99, 100, 101, 102]⟩ : ByteArray) (ji4)] : List Int)) (inner := [.int .u8 (bt (⟨#[48, 49, 50, 51, 52, 53, 54, 55, 56, 57, 97, 98, 99, 100, 101, 102]⟩ : ByteArray) (ji4))]) (ok := fun _ => True) (okp := fun _ => True) ?hr ?hp (fun _ hk => hk) trivial (Below.refl _ _) (Nat.le_refl _) (by simp) ?_; (case hd => rfl); (case hg => rfl); (case hr => first | (go_simp; done) | (go_simp; rfl)); (case hp => exact (Reps.one (show Kd.M (Kd.int .u8) _ _ _ (bt (⟨#[48, 49, 50, 51, 52, 53, 54, 55, 56, 57, 97, 98, 99, 100, 101, 102]⟩ : ByteArray) (ji4)) [.int .u8 (bt (⟨#[48, 49, 50, 51, 52, 53, 54, 55, 56, 57, 97, 98, 99, 100, 101, 102]⟩ : ByteArray) (ji4))] from rfl) (Reps.none _ _)))
                intro v171 w16 ho17 hb hg_ hnew_
                clear hg_ hnew_
                (first | rw [← Ny170.out] at ho17 | (simp only [Int.reduceToNat] at ho17; rw [← Ny170.out] at ho17))
                have n0_ := Aside0.mk (Kd.R_lower ho17 (below_size (by repeat (first | (with_reducible first | exact HB.out | apply below_alloc | apply pw_below_drewN | apply below_drew1) | exact HB.out))))
                have n1_ := Aside0.mk (below_step (by repeat (first | (with_reducible first | exact HB.out | apply below_alloc | apply pw_below_drewN | apply below_drew1) | exact HB.out)) hb)
                clear HB
                have HO172 := n0_
                have HB := n1_
                clear n0_ n1_
                clear hb ho17
                refine hK.out _ _ trivial (fun hHeld => ?_)
                clear hK K
                refine norm_ (a' := ?_) ?_ ?_
                rotate_left
                · show Act.put _ (some 22) _ = _
                  simp only [Act.put, List.setIfInBounds_toArray, List.set_cons_zero, List.set_cons_succ, i64_w, i32_w]
                  rfl
                refine one_ (i := 7) (N := some 23) #[true, true, true, true, true, true, true, true, false, false] rfl rfl (one_of HT_.out (by kernel_rfl)) (by decide) (fun K hK => ?_)
                have hcv18 := own_string (P := Tryz.prog) Tryz.underlying82 Tryz.underlying5 Tryz.underlying9 (Kd.own_of_R HO172.out)
                refine value_ (w1 := ?_) (v := ?_) (by rfl) rfl ?_ ?_
                rotate_left 2
                · go_simp
                  constructor
                  · rfl
                  · rfl
                clear hcv18
                refine hK.out _ _ trivial (fun hHeld => ?_)
                clear hK K
                refine norm_ (a' := ?_) ?_ ?_
                rotate_left
                · show Act.put _ (some 23) _ = _
                  simp only [Act.put, List.setIfInBounds_toArray, List.set_cons_zero, List.set_cons_succ, i64_w, i32_w]
                  rfl
                exact norm_ (by simp only [putAll, Act.put, List.setIfInBounds_toArray, List.set_cons_zero, List.set_cons_succ]) (hCont (v171) _ ⟨(by (with_reducible repeat (first | apply Kd.R_alloc | apply Kd.R_drewN | apply Kd.R_drew)); exact HO172.out), (by repeat (first | (with_reducible first | exact HB.out | apply below_alloc | apply pw_below_drewN | apply below_drew1) | exact HB.out))⟩)
              · skip
                refine Kd.R_lit_step (Kd.int .u8) _ 5 ?hg (N := 22) ?hd (xs := ([bt (⟨#[48, 49, 50, 51, 52, 53, 54, 55, 56, 57, 97, 98, 99, 100, 101, 102]⟩ : ByteArray) (ji4)] : List Int)) (inner := [.int .u8 (bt (⟨#[48, 49, 50, 51, 52, 53, 54, 55, 56, 57, 97, 98, 99, 100, 101, 102]⟩ : ByteArray) (ji4))]) (ok := fun _ => True) (okp := fun _ => True) ?hr ?hp (fun _ hk => hk) trivial (Below.refl _ _) (Nat.le_refl _) (by simp) ?_; (case hd => rfl); (case hg => rfl); (case hr => first | (go_simp; done) | (go_simp; rfl)); (case hp => exact (Reps.one (show Kd.M (Kd.int .u8) _ _ _ (bt (⟨#[48, 49, 50, 51, 52, 53, 54, 55, 56, 57, 97, 98, 99, 100, 101, 102]⟩ : ByteArray) (ji4)) [.int .u8 (bt (⟨#[48, 49, 50, 51, 52, 53, 54, 55, 56, 57, 97, 98, 99, 100, 101, 102]⟩ : ByteArray) (ji4))] from rfl) (Reps.none _ _)))
                intro v171 w15 ho16 hb hg_ hnew_
                clear hg_ hnew_
                (first | rw [← Ny170.out] at ho16 | (simp only [Int.reduceToNat] at ho16; rw [← Ny170.out] at ho16))
                have n0_ := Aside0.mk (Kd.R_lower ho16 (below_size (by repeat (first | (with_reducible first | exact HB.out | apply below_alloc | apply pw_below_drewN | apply below_drew1) | exact HB.out))))
                have n1_ := Aside0.mk (below_step (by repeat (first | (with_reducible first | exact HB.out | apply below_alloc | apply pw_below_drewN | apply below_drew1) | exact HB.out)) hb)
                clear HB
                have HO172 := n0_
                have HB := n1_
                clear n0_ n1_
                clear hb ho16
                refine hK.out _ _ trivial (fun hHeld => ?_)
                clear hK K
                refine norm_ (a' := ?_) ?_ ?_
                rotate_left
                · show Act.put _ (some 22) _ = _
                  simp only [Act.put, List.setIfInBounds_toArray, List.set_cons_zero, List.set_cons_succ, i64_w, i32_w]
                  rfl
                refine two_ (i := 4) (j := 7) (Ni := some 20) (Nj := some 23) #[true, true, true, true, true, true, true, false, false, false] #[true, true, true, true, false, true, true, true, false, false] rfl rfl rfl rfl (two_of HT_.out (by kernel_rfl)) (by decide) (by decide) (fun K hK => ?_) (fun K hK => ?_)
                · skip
                  refine goes_ Tryz.func200 (by kernel_rfl) rfl #[.int .u64 (IntKind.u64.wrap (Int.tdiv a0 a1)), .int .u64 a1] (by rfl) rfl rfl (by (try simp only [List.map_toArray, List.map_cons, List.map_nil]); first | done | rfl | (simp only [List.length_drop, List.length_take]; rfl)) ?_
                  with_reducible refine (ih k (by omega) (IntKind.u64.wrap (Int.tdiv a0 a1)) a1 t169 _ A12.out).mono ?_
                  rintro e w17 ⟨rfl, hb⟩
                  refine ⟨_, rfl, ?_⟩
                  have n0_ := Aside0.mk (Kd.R_below (by (with_reducible repeat (first | apply Kd.R_alloc | apply Kd.R_drewN | apply Kd.R_drew)); exact HO172.out) hb)
                  have n1_ := Aside0.mk (below_step (by repeat (first | (with_reducible first | exact HB.out | apply below_alloc | apply pw_below_drewN | apply below_drew1) | exact HB.out)) hb)
                  clear HO172
                  clear HB
                  have HO172 := n0_
                  have HB := n1_
                  clear n0_ n1_
                  (try clear hb)
                  (try clear hb2)
                  (try clear hk)
                  (try clear hi)
                  refine hK.out _ _ trivial (fun hHeld => ?_)
                  clear hK K
                  refine norm_ (a' := ?_) ?_ ?_
                  rotate_left
                  · show Act.put _ (some 20) _ = _
                    simp only [Act.put, List.setIfInBounds_toArray, List.set_cons_zero, List.set_cons_succ, i64_w, i32_w]
                    rfl
                  refine one_ (i := 7) (N := some 23) #[true, true, true, true, true, true, true, true, false, false] rfl rfl (one_of HT_.out (by kernel_rfl)) (by decide) (fun K hK => ?_)
                  have hcv18 := own_string (P := Tryz.prog) Tryz.underlying82 Tryz.underlying5 Tryz.underlying9 (Kd.own_of_R HO172.out)
                  refine value_ (w1 := ?_) (v := ?_) (by rfl) rfl ?_ ?_
                  rotate_left 2
                  · go_simp
                    constructor
                    · rfl
                    · rfl
                  clear hcv18
                  refine hK.out _ _ trivial (fun hHeld => ?_)
                  clear hK K
                  refine norm_ (a' := ?_) ?_ ?_
                  rotate_left
                  · show Act.put _ (some 23) _ = _
                    simp only [Act.put, List.setIfInBounds_toArray, List.set_cons_zero, List.set_cons_succ, i64_w, i32_w]
                    rfl
                  exact norm_ (by simp only [putAll, Act.put, List.setIfInBounds_toArray, List.set_cons_zero, List.set_cons_succ]) (hCont (v171) _ ⟨(by (with_reducible repeat (first | apply Kd.R_alloc | apply Kd.R_drewN | apply Kd.R_drew)); exact HO172.out), (by repeat (first | (with_reducible first | exact HB.out | apply below_alloc | apply pw_below_drewN | apply below_drew1) | exact HB.out))⟩)
                · skip
                  have hcv17 := own_string (P := Tryz.prog) Tryz.underlying82 Tryz.underlying5 Tryz.underlying9 (Kd.own_of_R HO172.out)
                  refine value_ (w1 := ?_) (v := ?_) (by rfl) rfl ?_ ?_
                  rotate_left 2
                  · go_simp
                    constructor
                    · rfl
                    · rfl
                  clear hcv17
                  refine hK.out _ _ trivial (fun hHeld => ?_)
                  clear hK K
                  refine norm_ (a' := ?_) ?_ ?_
                  rotate_left
                  · show Act.put _ (some 23) _ = _
                    simp only [Act.put, List.setIfInBounds_toArray, List.set_cons_zero, List.set_cons_succ, i64_w, i32_w]
                    rfl
                  refine one_ (i := 4) (N := some 20) #[true, true, true, true, true, true, true, true, false, false] rfl rfl (one_of HT_.out (by kernel_rfl)) (by decide) (fun K hK => ?_)
                  refine goes_ Tryz.func200 (by kernel_rfl) rfl #[.int .u64 (IntKind.u64.wrap (Int.tdiv a0 a1)), .int .u64 a1] (by rfl) rfl rfl (by (try simp only [List.map_toArray, List.map_cons, List.map_nil]); first | done | rfl | (simp only [List.length_drop, List.length_take]; rfl)) ?_
                  with_reducible refine (ih k (by omega) (IntKind.u64.wrap (Int.tdiv a0 a1)) a1 t169 _ A12.out).mono ?_
                  rintro e w18 ⟨rfl, hb⟩
                  refine ⟨_, rfl, ?_⟩
                  have n0_ := Aside0.mk (Kd.R_below (by (with_reducible repeat (first | apply Kd.R_alloc | apply Kd.R_drewN | apply Kd.R_drew)); exact HO172.out) hb)
                  have n1_ := Aside0.mk (below_step (by repeat (first | (with_reducible first | exact HB.out | apply below_alloc | apply pw_below_drewN | apply below_drew1) | exact HB.out)) hb)
                  clear HO172
                  clear HB
                  have HO172 := n0_
                  have HB := n1_
                  clear n0_ n1_
                  (try clear hb)
                  (try clear hb2)
                  (try clear hk)
                  (try clear hi)
                  refine hK.out _ _ trivial (fun hHeld => ?_)
                  clear hK K
                  refine norm_ (a' := ?_) ?_ ?_
                  rotate_left
                  · show Act.put _ (some 20) _ = _
                    simp only [Act.put, List.setIfInBounds_toArray, List.set_cons_zero, List.set_cons_succ, i64_w, i32_w]
                    rfl
                  exact norm_ (by simp only [putAll, Act.put, List.setIfInBounds_toArray, List.set_cons_zero, List.set_cons_succ]) (hCont (v171) _ ⟨(by (with_reducible repeat (first | apply Kd.R_alloc | apply Kd.R_drewN | apply Kd.R_drew)); exact HO172.out), (by repeat (first | (with_reducible first | exact HB.out | apply below_alloc | apply pw_below_drewN | apply below_drew1) | exact HB.out))⟩)
            rintro v171 w19 ⟨h0_, h1_⟩
            have n0_ : Aside0 (Kd.R (Kd.int .u8) 5 w19 w.heap.size (fun _ => True) v171 y170) := ⟨h0_⟩
            have n1_ : Aside0 (Below w.heap.size w w19) := ⟨h1_⟩
            clear HB
            clear h0_ h1_
            have HO172 := n0_
            have HB := n1_
            clear n0_ n1_
            have hHeld := trivial
            refine norm_ (a' := ?_) ?_ ?_
            rotate_left
            · simp only [putAll, Act.put, List.setIfInBounds_toArray, List.set_cons_zero, List.set_cons_succ]
              rfl
            refine pure_ (i := 8) (N := some 24) (v := ?_) (a' := ?_) #[true, true, true, true, true, true, true, true, true, false] rfl rfl (any_of HT_.out (by kernel_rfl)) (fun _ _ _ h => h) (Or.inl ⟨by rfl, ?_⟩) ?_ ?_
            rotate_left
            · intro w'
              go_simp
              with_reducible rfl
            rotate_left
            · simp only [Act.put, List.setIfInBounds_toArray, List.set_cons_zero, List.set_cons_succ, i64_w, i32_w]
              rfl
            refine pure_ (i := 9) (N := some 4) (v := ?_) (a' := ?_) #[true, true, true, true, true, true, true, true, true, true] rfl rfl (any_of HT_.out (by kernel_rfl)) (fun _ _ _ h => h) (Or.inl ⟨by rfl, ?_⟩) ?_ ?_
            rotate_left
            · intro w'
              go_simp
              with_reducible rfl
            rotate_left
            · simp only [Act.put, List.setIfInBounds_toArray, List.set_cons_zero, List.set_cons_succ, i64_w, i32_w]
              rfl
            refine done_ (done_of HT_.out (by kernel_rfl)) ?_
            try go_wp2
            go_ret
            exact ⟨by first | rfl | (simp [errW_none, errW_some] <;> rfl) | (simp only [← hji4]; first | rfl | (simp [errW_none, errW_some] <;> rfl)) | (simp [*, errW_none, errW_some] <;> rfl), by repeat (first | (with_reducible first | exact HB.out | apply below_alloc | apply pw_below_drewN | apply below_drew1) | exact HB.out)⟩
          · rw [if_neg c13] at H
            exact absurd H (by simp)
      · rw [if_neg c6] at H
        exact absurd H (by simp)
    · rw [if_neg c5] at H
      exact absurd H (by simp)

end Go.Proofs.YtabfglmpnkgecaaGreatDoor.Q

-- Written by a program of this claim's session (after the kit's print, with a kind for float64). Lean checks it.
namespace Go.Proofs.YtabfglmpnkgecaaGreatDoor.Q
open Go.RowKit Go.Proofs.YtabfglmpnkgecaaGreatDoorW.PrintWords Go.Proofs.YtabfglmpnkgecaaGreatDoorW.PrintLast Go.Proofs.YtabfglmpnkgecaaGreatDoorW.PrintMore
attribute [local go_sem] max2_int min2_int max_two min_two max_three min_three max_four min_four   -- for this text's walks alone
set_option linter.unusedVariables false
set_option linter.unusedSimpArgs false

/-! ### spec_Text: function 46 -/
def spec_Text.f (k : Nat) (a0 : Int) : Option (ByteArray) := (spec_Digits.f k a0 10).bind fun t173 => (some t173)
theorem spec_Text.mono : ∀ a0 k, LeO (spec_Text.f k a0) (spec_Text.f (k + 1) a0) := by
  intro a0 k
  unfold spec_Text.f
  repeat' first
      | (with_reducible exact spec_Digits.mono _ _ _)
      | (with_reducible exact LeO.refl _)
      | (with_reducible exact LeO.none _)
      | (with_reducible refine LeO.ite ?_ ?_)
      | (with_reducible refine LeO.bind ?_ (fun _ => ?_))
      | exact spec_Digits.mono _ _ _
      | exact LeO.none _
      | refine LeO.ite ?_ ?_
      | refine LeO.bind ?_ (fun _ => ?_)
set_option maxHeartbeats 8000000 in
set_option maxRecDepth 100000 in
theorem spec_Text.calls (k : Nat) (a0 : Int) (r : ByteArray) (w : World) (h : spec_Text.f k a0 = some r) :
    Calls Tryz.prog 46 #[.int .u64 a0] w fun e w' => e = .returned (.string r) ∧ Below w.heap.size w w' := by
  have HB := Aside0.mk (Below.refl w.heap.size w)
  have H : ((spec_Digits.f k a0 10).bind fun t173 => (some t173)) = some r := h
  clear h
  replace H := Option.bind_eq_some_iff.mp H
  obtain ⟨t173, A20, H⟩ := H
  replace H : (some t173) = some r := H
  have A2 := Aside0.mk A20
  clear A20
  obtain rfl := Option.some.inj H
  go_enter Tryz.func46, Tryz.ntmps46
  go_wp2_with (first | ((with_reducible refine gate_callee (f := 200) rfl ?_); refine goesL_ (some 4) rfl rfl Tryz.func200 (by kernel_rfl) rfl #[.int .u64 a0, .int .u64 10] rfl (by (try simp only [List.map_toArray, List.map_cons, List.map_nil]); first | done | rfl | (simp only [List.length_drop, List.length_take]; rfl)) ?_; (with_reducible refine (spec_Digits.calls k a0 10 t173 _ A2.out).mono ?_); rintro e w3 ⟨rfl, hb⟩; refine ⟨_, rfl, ?_⟩; have n0_ := Aside0.mk (below_step (by repeat (first | (with_reducible first | exact HB.out | apply below_alloc | apply pw_below_drewN | apply below_drew1) | exact HB.out)) hb); clear HB; have HB := n0_; clear n0_; (try clear hb); (try clear hb2); (try clear hk); (try clear hi)))
  go_ret
  exact ⟨by first | rfl | (simp [errW_none, errW_some] <;> rfl) | (simp [*, errW_none, errW_some] <;> rfl), by repeat (first | (with_reducible first | exact HB.out | apply below_alloc | apply pw_below_drewN | apply below_drew1) | exact HB.out)⟩

end Go.Proofs.YtabfglmpnkgecaaGreatDoor.Q

-- Written by a program of this claim's session (after the kit's print, with a kind for float64). Lean checks it.
namespace Go.Proofs.YtabfglmpnkgecaaGreatDoor.Q
open Go.RowKit Go.Proofs.YtabfglmpnkgecaaGreatDoorW.PrintWords Go.Proofs.YtabfglmpnkgecaaGreatDoorW.PrintLast Go.Proofs.YtabfglmpnkgecaaGreatDoorW.PrintMore
attribute [local go_sem] max2_int min2_int max_two min_two max_three min_three max_four min_four   -- for this text's walks alone
set_option linter.unusedVariables false
set_option linter.unusedSimpArgs false

/-! ### spec_SignedText: function 28 -/
def spec_SignedText.f (k : Nat) (a0 : Int) : Option (ByteArray) := if a0 < 0 then ((spec_Text.f k (IntKind.u64.wrap ((IntKind.u64.wrap (wrap64 (-(wrap64 (a0 + 1))))) + 1))).bind fun t174 => (if 1 + t174.size ≤ 9223372036854775807 then (some ((⟨#[45]⟩ : ByteArray) ++ t174)) else (none))) else ((spec_Text.f k (IntKind.u64.wrap (a0))).bind fun t175 => (some t175))
theorem spec_SignedText.mono : ∀ a0 k, LeO (spec_SignedText.f k a0) (spec_SignedText.f (k + 1) a0) := by
  intro a0 k
  unfold spec_SignedText.f
  repeat' first
      | (with_reducible exact spec_Text.mono _ _)
      | (with_reducible exact LeO.refl _)
      | (with_reducible exact LeO.none _)
      | (with_reducible refine LeO.ite ?_ ?_)
      | (with_reducible refine LeO.bind ?_ (fun _ => ?_))
      | exact spec_Text.mono _ _
      | exact LeO.none _
      | refine LeO.ite ?_ ?_
      | refine LeO.bind ?_ (fun _ => ?_)
set_option maxHeartbeats 8000000 in
set_option maxRecDepth 100000 in
theorem spec_SignedText.calls (k : Nat) (a0 : Int) (r : ByteArray) (w : World) (h : spec_SignedText.f k a0 = some r) :
    Calls Tryz.prog 28 #[.int .i64 a0] w fun e w' => e = .returned (.string r) ∧ Below w.heap.size w w' := by
  have HB := Aside0.mk (Below.refl w.heap.size w)
  have H : (if a0 < 0 then ((spec_Text.f k (IntKind.u64.wrap ((IntKind.u64.wrap (wrap64 (-(wrap64 (a0 + 1))))) + 1))).bind fun t174 => (if 1 + t174.size ≤ 9223372036854775807 then (some ((⟨#[45]⟩ : ByteArray) ++ t174)) else (none))) else ((spec_Text.f k (IntKind.u64.wrap (a0))).bind fun t175 => (some t175))) = some r := h
  clear h
  by_cases c2 : a0 < 0
  · rw [if_pos c2] at H
    have c2b0 : decide (a0 < 0) = true := decide_eq_true c2
    clear c2
    replace H := Option.bind_eq_some_iff.mp H
    obtain ⟨t174, A30, H⟩ := H
    replace H : (if 1 + t174.size ≤ 9223372036854775807 then (some ((⟨#[45]⟩ : ByteArray) ++ t174)) else (none)) = some r := H
    have A3 := Aside0.mk A30
    clear A30
    by_cases c4 : 1 + t174.size ≤ 9223372036854775807
    · rw [if_pos c4] at H
      have c4b0 := eq_true c4
      have c4b1 : decide (1 + t174.size ≤ 9223372036854775807) = true := decide_eq_true c4
      try have c4b2 : (9223372036854775807 < 1 + t174.size) = False := eq_false (Nat.not_lt.2 c4)
      obtain rfl := Option.some.inj H
      go_enter Tryz.func28, Tryz.ntmps28
      go_wp2_with (first | ((with_reducible refine gate_callee (f := 46) rfl ?_); refine goesL_ (some 10) rfl rfl Tryz.func46 (by kernel_rfl) rfl #[.int .u64 (IntKind.u64.wrap ((IntKind.u64.wrap (wrap64 (-(wrap64 (a0 + 1))))) + 1))] rfl (by (try simp only [List.map_toArray, List.map_cons, List.map_nil]); first | done | rfl | (simp only [List.length_drop, List.length_take]; rfl)) ?_; (with_reducible refine (spec_Text.calls k (IntKind.u64.wrap ((IntKind.u64.wrap (wrap64 (-(wrap64 (a0 + 1))))) + 1)) t174 _ A3.out).mono ?_); rintro e w5 ⟨rfl, hb⟩; refine ⟨_, rfl, ?_⟩; have n0_ := Aside0.mk (below_step (by repeat (first | (with_reducible first | exact HB.out | apply below_alloc | apply pw_below_drewN | apply below_drew1) | exact HB.out)) hb); clear HB; have HB := n0_; clear n0_; (try clear hb); (try clear hb2); (try clear hk); (try clear hi)))
      go_ret
      exact ⟨by first | rfl | (simp [errW_none, errW_some] <;> rfl) | (simp [*, errW_none, errW_some] <;> rfl), by repeat (first | (with_reducible first | exact HB.out | apply below_alloc | apply pw_below_drewN | apply below_drew1) | exact HB.out)⟩
    · rw [if_neg c4] at H
      exact absurd H (by simp)
  · rw [if_neg c2] at H
    have c2b0 : decide (a0 < 0) = false := decide_eq_false c2
    clear c2
    replace H := Option.bind_eq_some_iff.mp H
    obtain ⟨t175, A60, H⟩ := H
    replace H : (some t175) = some r := H
    have A6 := Aside0.mk A60
    clear A60
    obtain rfl := Option.some.inj H
    go_enter Tryz.func28, Tryz.ntmps28
    go_wp2_with (first | ((with_reducible refine gate_callee (f := 46) rfl ?_); refine goesL_ (some 14) rfl rfl Tryz.func46 (by kernel_rfl) rfl #[.int .u64 (IntKind.u64.wrap (a0))] rfl (by (try simp only [List.map_toArray, List.map_cons, List.map_nil]); first | done | rfl | (simp only [List.length_drop, List.length_take]; rfl)) ?_; (with_reducible refine (spec_Text.calls k (IntKind.u64.wrap (a0)) t175 _ A6.out).mono ?_); rintro e w7 ⟨rfl, hb⟩; refine ⟨_, rfl, ?_⟩; have n0_ := Aside0.mk (below_step (by repeat (first | (with_reducible first | exact HB.out | apply below_alloc | apply pw_below_drewN | apply below_drew1) | exact HB.out)) hb); clear HB; have HB := n0_; clear n0_; (try clear hb); (try clear hb2); (try clear hk); (try clear hi)))
    go_ret
    exact ⟨by first | rfl | (simp [errW_none, errW_some] <;> rfl) | (simp [*, errW_none, errW_some] <;> rfl), by repeat (first | (with_reducible first | exact HB.out | apply below_alloc | apply pw_below_drewN | apply below_drew1) | exact HB.out)⟩

end Go.Proofs.YtabfglmpnkgecaaGreatDoor.Q

/- Numbers as texts: decimal digits; what Digits, Join and numbers make. -/
namespace Go.Proofs.YtabfglmpnkgecaaGreatDoor.X
open Go.RowKit Go.Proofs.YtabfglmpnkgecaaGreatDoorW.PrintWords Go.Proofs.YtabfglmpnkgecaaGreatDoorW.PrintLast Go.Proofs.YtabfglmpnkgecaaGreatDoorW.PrintMore Go.Proofs.YtabfglmpnkgecaaGreatDoor.Q

/-- The last decimal digit, as a byte. -/
def dig (n : Nat) : UInt8 := UInt8.ofNat (48 + n % 10)
/-- The decimal digits of a number, as bytes. -/
def decL (n : Nat) : List UInt8 := if n < 10 then [dig n] else decL (n / 10) ++ [dig n]

theorem decL_small {n : Nat} (h : n < 10) : decL n = [dig n] := by rw [decL, if_pos h]
theorem decL_big {n : Nat} (h : ¬ n < 10) : decL n = decL (n / 10) ++ [dig n] := by rw [decL, if_neg h]
theorem decL_len : ∀ k n : Nat, n < 10 ^ (k + 1) → (decL n).length ≤ k + 1
  | 0, n, h => by rw [decL_small (by simpa using h)]; simp
  | k + 1, n, h => by
    by_cases c : n < 10
    · rw [decL_small c]; simp
    · have h' : n / 10 < 10 ^ (k + 1) := by
        rw [Nat.pow_succ] at h
        omega
      have ih := decL_len k (n / 10) h'
      rw [decL_big c, List.length_append]
      simp only [List.length_cons, List.length_nil]
      omega
theorem decL_len20 {n : Nat} (h : n < 18446744073709551616) : (decL n).length ≤ 20 := decL_len 19 n (by omega)

theorem ba_ext {a b : ByteArray} (h : a.data.toList = b.data.toList) : a = b := by
  cases a; cases b
  congr 1
  exact Array.toList_inj.1 h
theorem dapp (a b : ByteArray) : (a ++ b).data.toList = a.data.toList ++ b.data.toList := by
  obtain ⟨a⟩ := a
  obtain ⟨b⟩ := b
  rw [ByteArray.mk_append_mk]
theorem ba_size (a : ByteArray) : a.size = a.data.toList.length := by rw [Array.length_toList]; rfl
theorem ba_list (l : List UInt8) : (⟨l.toArray⟩ : ByteArray).data.toList = l := rfl

theorem digit_str (n : Nat) : strOfNums [bt (⟨#[48, 49, 50, 51, 52, 53, 54, 55, 56, 57, 97, 98, 99, 100, 101, 102]⟩ : ByteArray) ((n % 10 : Nat) : Int)] = ⟨#[dig n]⟩ := by
  unfold dig
  have h : n % 10 < 10 := Nat.mod_lt _ (by decide)
  generalize n % 10 = d at h
  have : d = 0 ∨ d = 1 ∨ d = 2 ∨ d = 3 ∨ d = 4 ∨ d = 5 ∨ d = 6 ∨ d = 7 ∨ d = 8 ∨ d = 9 := by omega
  rcases this with rfl | rfl | rfl | rfl | rfl | rfl | rfl | rfl | rfl | rfl <;> rfl

theorem digits_ok (n : Nat) : n < 18446744073709551616 → ∃ k, spec_Digits.f k n 10 = some ⟨(decL n).toArray⟩ := by
  induction n using Nat.strongRecOn with
  | ind n ih =>
    intro hn
    have e1 : Int.tmod (n : Int) 10 = ((n % 10 : Nat) : Int) := by rw [Int.tmod_eq_emod_of_nonneg (by omega)]; omega
    by_cases c : n < 10
    · refine ⟨1, ?_⟩
      unfold spec_Digits.f
      rw [if_neg (by decide), e1, if_pos (by omega), if_pos (by omega), if_pos (by omega), digit_str, decL_small c]
    · obtain ⟨k, hk⟩ := ih (n / 10) (by omega) (by omega)
      refine ⟨k + 1, ?_⟩
      have e2 : IntKind.u64.wrap (Int.tdiv (n : Int) 10) = ((n / 10 : Nat) : Int) := by
        rw [show Int.tdiv (n : Int) 10 = ((n / 10 : Nat) : Int) by rw [Int.tdiv_eq_ediv_of_nonneg (by omega)]; omega]
        show ((n / 10 : Nat) : Int) % 18446744073709551616 = _
        omega
      have hl := decL_len20 (n := n / 10) (by omega)
      unfold spec_Digits.f
      rw [if_neg (by decide), e1, if_pos (by omega), if_pos (by omega), if_neg (by omega), e2, hk]
      simp only [Option.bind_some, digit_str]
      rw [if_pos (by rw [ba_size, ba_size, ba_list]; simp; omega), decL_big c]
      exact congrArg some (ba_ext (by rw [dapp]))

theorem digits_up {a b : Int} {r : ByteArray} : ∀ m k, spec_Digits.f k a b = some r → spec_Digits.f (k + m) a b = some r
  | 0, k, h => h
  | m + 1, k, h => spec_Digits.mono a b (k + m) r (digits_up m k h)

/-- A number with its sign, as bytes. -/
def sgL (v : Int) : List UInt8 := if v < 0 then 45 :: decL (-v).toNat else decL v.toNat
theorem sgL_len (v : Int) (h1 : -9007199254740992 ≤ v) (h2 : v ≤ 9007199254740992) : (sgL v).length ≤ 21 := by
  unfold sgL
  split
  · have := decL_len20 (n := (-v).toNat) (by omega)
    simp only [List.length_cons]; omega
  · have := decL_len20 (n := v.toNat) (by omega)
    omega
theorem signed_ok (v : Int) (h1 : -9007199254740992 ≤ v) (h2 : v ≤ 9007199254740992) : ∃ k, spec_SignedText.f k v = some ⟨(sgL v).toArray⟩ := by
  unfold sgL
  by_cases c : v < 0
  · obtain ⟨k, hk⟩ := digits_ok (-v).toNat (by omega)
    refine ⟨k, ?_⟩
    have e : IntKind.u64.wrap ((IntKind.u64.wrap (wrap64 (-(wrap64 (v + 1))))) + 1) = (((-v).toNat : Nat) : Int) := by
      have a1 : wrap64 (v + 1) = v + 1 := by unfold wrap64; omega
      have a2 : wrap64 (-(v + 1)) = -(v + 1) := by unfold wrap64; omega
      rw [a1, a2]
      show ((-(v + 1)) % 18446744073709551616 + 1) % 18446744073709551616 = _
      omega
    have hl := decL_len20 (n := (-v).toNat) (by omega)
    unfold spec_SignedText.f spec_Text.f
    rw [if_pos c, e, hk, if_pos c]
    simp only [Option.bind_some]
    rw [if_pos (by rw [ba_size, ba_list]; omega)]
    exact congrArg some (ba_ext (by rw [dapp]; rfl))
  · obtain ⟨k, hk⟩ := digits_ok v.toNat (by omega)
    refine ⟨k, ?_⟩
    have e : IntKind.u64.wrap v = ((v.toNat : Nat) : Int) := by
      show v % 18446744073709551616 = _
      omega
    unfold spec_SignedText.f spec_Text.f
    rw [if_neg c, e, hk, if_neg c]
    rfl
theorem signed_up {a : Int} {r : ByteArray} : ∀ m k, spec_SignedText.f k a = some r → spec_SignedText.f (k + m) a = some r
  | 0, k, h => h
  | m + 1, k, h => spec_SignedText.mono a (k + m) r (signed_up m k h)
end Go.Proofs.YtabfglmpnkgecaaGreatDoor.X
