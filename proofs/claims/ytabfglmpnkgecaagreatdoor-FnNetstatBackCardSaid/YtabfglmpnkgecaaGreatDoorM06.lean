/- readFloat and special at the decimal text of a whole number above 0, with or without a minus. (Written by a program of this claim.) -/
import Derived.Test.YtabfglmpnkgecaaGreatDoorM05
import Derived.Test.YtabfglmpnkgecaaGreatDoorM04
import Derived.LoopN
import Derived.WalkMore
import Derived.Test.YtabfglmpnkgecaaGreatDoorM01
import Derived.Laws.BitsLemmas
import Derived.Laws.Bits64
import Derived.Laws.Cover2
import Derived.Laws.FloatArith
import Derived.Laws.BitsAllLaws
import Derived.Laws.Externs
set_option linter.unusedVariables false
set_option linter.unusedSimpArgs false
namespace Go.Proofs.YtabfglmpnkgecaaGreatDoor.X
open Go.RowKit Go.Proofs.YtabfglmpnkgecaaGreatDoorW.PrintWords Go.Proofs.YtabfglmpnkgecaaGreatDoorW.PrintLast Go.Proofs.YtabfglmpnkgecaaGreatDoorW.PrintMore Go.Proofs.YtabfglmpnkgecaaGreatDoor.Q

set_option maxHeartbeats 8000000 in
set_option maxRecDepth 100000 in
theorem rf_pos (m : Nat) (h0 : 0 < m) (h1 : m ≤ 9007199254740992) (S : ByteArray) (hS : S.data.toList = decL m) (w : World) :
    Calls Tryz.prog 220 #[.string S] w fun e w' => e = .returned (.tuple #[.int .u64 m, .int .i64 0, .bool false, .bool false, .bool false, .int .i64 (((decL m).length + 0 : Nat) : Int), .bool true]) ∧ w' = w := by
  have HD : Aside0 ((decL m).length ≤ 16 ∧ 0 < (decL m).length) := ⟨decL_len16 h1, decL_pos m⟩
  have hsz : S.size = (decL m).length + 0 := by rw [ba_size, hS]; rfl
  have HB : Aside0 (∀ j, j < (decL m).length → bt S ((j : Nat) : Int) = (((decL m).getD j 0).toNat : Int)) := ⟨fun j hj => by
    rw [bt_list S (j) (by omega), hS]⟩
  have HDG : Aside0 (∀ j, j < (decL m).length → 48 ≤ ((decL m).getD j 0).toNat ∧ ((decL m).getD j 0).toNat ≤ 57) := ⟨fun j hj => decL_digit m _ (by rw [List.getD_eq_getElem?_getD, List.getElem?_eq_getElem hj]; exact List.getElem_mem _)⟩
  have HH0 := Aside0.mk (And.intro h0 h1)
  have hf := decL_first m h0
  have hf2 := HDG.out 0 HD.out.2
  have HS0 : Aside0 (S.data.toList = decL m) := ⟨hS⟩
  have hbb : ∀ i (h : i < S.size), ((S[i]'h).toNat : Int) = bt S i := fun i h => bt_at S i h
  generalize hn : (decL m).length = n at *
  have HN := Aside0.mk hn
  have hc1 : 48 < bt S 0 ∧ bt S 0 ≤ 57 := by rw [show ((0 : Int)) = ((0 : Nat) : Int) from rfl, HB.out 0 HD.out.2]; omega

  have e43 : (bt S 0 == 43) = false := beq_eq_false_iff_ne.2 (by omega)
  have e45 : (bt S 0 == 45) = false := beq_eq_false_iff_ne.2 (by omega)
  have e48 : (bt S 0 == 48) = false := beq_eq_false_iff_ne.2 (by omega)
  obtain ⟨NN, hNN⟩ : ∃ NN, n + 0 = NN := ⟨_, rfl⟩
  rw [hNN] at hsz ⊢
  have HNN := Aside0.mk (And.intro hNN hsz)
  have hN1 : (NN : Int) ≤ 17 := by have := HD.out; omega
  have hN2 : 0 < NN := by have := HD.out.2; omega
  have hN3 : ¬ NN = 0 := by omega
  clear hn hf hf2 h0 h1 hc1 hS hNN
  have hw : Aside0 (∀ x : Int, 0 ≤ x → x < 18446744073709551616 → IntKind.u64.wrap x = x) := ⟨fun x h1 h2 => by show x % 18446744073709551616 = x; omega⟩
  by_cases hl2 : (2 : Int) < (NN : Int)
  · go_enter Tryz.func220, Tryz.ntmps220
    go_wp2
    go_step3
    go_wp2
    go_step3
    go_wp2
    clear e43 e45 e48 hN2 hN3 hl2
    go_loopw [2, 5, 7, 9, 13, 14, 15, 16, 17] (fun v2 v5 v7 v9 v13 v14 v15 v16 v17 w' => ∃ j : Nat, j ≤ n ∧ v2 = .int .u64 (mval ((decL m).take j) : Int) ∧ v5 = .bool false ∧ v7 = .int .i64 ((j : Nat) : Int) ∧ v9 = .bool false ∧ v13 = .bool false ∧ v14 = .bool (decide (0 < j)) ∧ v15 = .int .i64 (j : Int) ∧ v16 = .int .i64 (j : Int) ∧ v17 = .int .i64 0 ∧ w' = w) (fun _ _ v7 _ _ _ _ _ _ _ => NN - (intOf v7).toNat)
    case atStart => exact ⟨0, by omega, rfl, rfl, rfl, rfl, rfl, rfl, rfl, rfl, rfl, rfl⟩
    case round =>
      obtain ⟨j, hj, rfl, rfl, rfl, rfl, rfl, rfl, rfl, rfl, rfl, rfl⟩ := hrel
      clear hbb
      by_cases hlt : j < n
      · have hb : ∀ h : j < S.size, ((S[j]'h).toNat : Int) = bt S ((j : Nat) : Int) := bt_at S ((j : Nat) : Int)
        have hbv := HB.out j hlt
        have hbd := HDG.out j hlt
        have HMV := Aside0.mk (mval_succ (decL m) j (by rw [HN.out]; exact hlt))
        have HF := Aside0.mk (show j = 0 → ((decL m).getD j 0).toNat ≠ 48 by rintro rfl; exact decL_first m HH0.out.1)
        have HML : Aside0 (mval ((decL m).take j) ≤ 9007199254740992 ∧ mval ((decL m).take (j + 1)) ≤ 9007199254740992) := ⟨Nat.le_trans (mval_take m j) HH0.out.2, Nat.le_trans (mval_take m (j + 1)) HH0.out.2⟩
        rw [hbv] at hb
        clear hbv
        generalize ((decL m).getD j 0).toNat = b at *
        have hlt2 : j < NN := by have := HNN.out; omega
        have e95 : ((b : Int) == 95) = false := beq_eq_false_iff_ne.2 (by omega)
        have e46 : ((b : Int) == 46) = false := beq_eq_false_iff_ne.2 (by omega)
        have l48 : (48 : Int) ≤ (b : Int) := by omega
        have l57 : (b : Int) ≤ 57 := by omega
        have lj : (j : Int) < 19 := by have := HD.out; omega
        have ej : j = 0 ∨ ((j : Int) == 0) = false := by rcases Nat.eq_zero_or_pos j with h | h; exact .inl h; exact .inr (beq_eq_false_iff_ne.2 (by omega))
        generalize hM : mval ((decL m).take j) = M at *
        replace hM := Aside0.mk hM
        have HV : Aside0 (IntKind.u64.wrap (IntKind.u64.wrap ((M : Int) * 10) + ((b : Int) - 48)) = ((mval ((decL m).take (j + 1)) : Nat) : Int)) := ⟨by
          have h1 := HMV.out
          have h2 := HML.out
          have e1 := hw.out ((M : Int) * 10) (by omega) (by omega)
          rw [e1, hw.out ((M : Int) * 10 + ((b : Int) - 48)) (by omega) (by omega), h1]
          omega⟩
        have HS2 : Aside0 (∀ i v : Nat, intOf (.int .i64 (i : Int)) = i) := ⟨fun _ _ => rfl⟩
        rcases ej with hj0 | hj0
        · have e48 : ((b : Int) == 48) = false := beq_eq_false_iff_ne.2 (by have := HF.out hj0; omega)
          clear HF HMV
          subst hj0
          have hb2 : ∀ h : 0 < S.size, ((S[0]'h).toNat : Int) = b := hb
          clear hb
          go_wp2
          refine ⟨⟨1, by omega, congrArg _ HV.out, rfl, rfl, rfl, rfl, rfl, rfl, rfl, rfl, by first | rfl | trivial⟩, by simp [intOf]; omega⟩
        · have hjp : 0 < j := by rcases Nat.eq_zero_or_pos j with h | h; (rw [h] at hj0; simp at hj0); exact h
          by_cases e48 : ((b : Int) == 48) = true
          · go_wp2
            refine ⟨⟨j + 1, by omega, congrArg _ HV.out, rfl, by congr 1, rfl, rfl, by simp, by congr 1, by congr 1, rfl, by first | rfl | trivial⟩, by simp [intOf]; omega⟩
          · replace e48 : ((b : Int) == 48) = false := by simpa using e48
            go_wp2
            refine ⟨⟨j + 1, by omega, congrArg _ HV.out, rfl, by congr 1, rfl, rfl, by simp, by congr 1, by congr 1, rfl, by first | rfl | trivial⟩, by simp [intOf]; omega⟩
      · have hn2 : 0 < n := HD.out.2
        obtain rfl : j = n := by omega
        rw [show (decL m).take j = decL m by rw [List.take_of_length_le (by rw [HN.out]; exact Nat.le_refl _)], mval_dec]
        have hm1 : ((m : Int) != 0) = true := bne_iff_ne.2 (by have := HH0.out; omega)
        have hNe : NN = j := HNN.out.1.symm
        subst hNe
        go_wp2
        try rw [Exit.noGoto_ret]
        refine bodyPost_ret (v := .tuple #[.int .u64 m, .int .i64 0, .bool false, .bool false, .bool false, .int .i64 ((NN : Nat) : Int), .bool true]) ?_ rfl ⟨rfl, rfl⟩
        simp [results, Tryz.results220]
  · go_enter Tryz.func220, Tryz.ntmps220
    go_wp2
    go_step3
    go_wp2
    go_step3
    go_wp2
    clear e43 e45 e48 hN2 hN3 hl2
    go_loopw [2, 5, 7, 9, 13, 14, 15, 16, 17] (fun v2 v5 v7 v9 v13 v14 v15 v16 v17 w' => ∃ j : Nat, j ≤ n ∧ v2 = .int .u64 (mval ((decL m).take j) : Int) ∧ v5 = .bool false ∧ v7 = .int .i64 ((j : Nat) : Int) ∧ v9 = .bool false ∧ v13 = .bool false ∧ v14 = .bool (decide (0 < j)) ∧ v15 = .int .i64 (j : Int) ∧ v16 = .int .i64 (j : Int) ∧ v17 = .int .i64 0 ∧ w' = w) (fun _ _ v7 _ _ _ _ _ _ _ => NN - (intOf v7).toNat)
    case atStart => exact ⟨0, by omega, rfl, rfl, rfl, rfl, rfl, rfl, rfl, rfl, rfl, rfl⟩
    case round =>
      obtain ⟨j, hj, rfl, rfl, rfl, rfl, rfl, rfl, rfl, rfl, rfl, rfl⟩ := hrel
      clear hbb
      by_cases hlt : j < n
      · have hb : ∀ h : j < S.size, ((S[j]'h).toNat : Int) = bt S ((j : Nat) : Int) := bt_at S ((j : Nat) : Int)
        have hbv := HB.out j hlt
        have hbd := HDG.out j hlt
        have HMV := Aside0.mk (mval_succ (decL m) j (by rw [HN.out]; exact hlt))
        have HF := Aside0.mk (show j = 0 → ((decL m).getD j 0).toNat ≠ 48 by rintro rfl; exact decL_first m HH0.out.1)
        have HML : Aside0 (mval ((decL m).take j) ≤ 9007199254740992 ∧ mval ((decL m).take (j + 1)) ≤ 9007199254740992) := ⟨Nat.le_trans (mval_take m j) HH0.out.2, Nat.le_trans (mval_take m (j + 1)) HH0.out.2⟩
        rw [hbv] at hb
        clear hbv
        generalize ((decL m).getD j 0).toNat = b at *
        have hlt2 : j < NN := by have := HNN.out; omega
        have e95 : ((b : Int) == 95) = false := beq_eq_false_iff_ne.2 (by omega)
        have e46 : ((b : Int) == 46) = false := beq_eq_false_iff_ne.2 (by omega)
        have l48 : (48 : Int) ≤ (b : Int) := by omega
        have l57 : (b : Int) ≤ 57 := by omega
        have lj : (j : Int) < 19 := by have := HD.out; omega
        have ej : j = 0 ∨ ((j : Int) == 0) = false := by rcases Nat.eq_zero_or_pos j with h | h; exact .inl h; exact .inr (beq_eq_false_iff_ne.2 (by omega))
        generalize hM : mval ((decL m).take j) = M at *
        replace hM := Aside0.mk hM
        have HV : Aside0 (IntKind.u64.wrap (IntKind.u64.wrap ((M : Int) * 10) + ((b : Int) - 48)) = ((mval ((decL m).take (j + 1)) : Nat) : Int)) := ⟨by
          have h1 := HMV.out
          have h2 := HML.out
          have e1 := hw.out ((M : Int) * 10) (by omega) (by omega)
          rw [e1, hw.out ((M : Int) * 10 + ((b : Int) - 48)) (by omega) (by omega), h1]
          omega⟩
        have HS2 : Aside0 (∀ i v : Nat, intOf (.int .i64 (i : Int)) = i) := ⟨fun _ _ => rfl⟩
        rcases ej with hj0 | hj0
        · have e48 : ((b : Int) == 48) = false := beq_eq_false_iff_ne.2 (by have := HF.out hj0; omega)
          clear HF HMV
          subst hj0
          have hb2 : ∀ h : 0 < S.size, ((S[0]'h).toNat : Int) = b := hb
          clear hb
          go_wp2
          refine ⟨⟨1, by omega, congrArg _ HV.out, rfl, rfl, rfl, rfl, rfl, rfl, rfl, rfl, by first | rfl | trivial⟩, by simp [intOf]; omega⟩
        · have hjp : 0 < j := by rcases Nat.eq_zero_or_pos j with h | h; (rw [h] at hj0; simp at hj0); exact h
          by_cases e48 : ((b : Int) == 48) = true
          · go_wp2
            refine ⟨⟨j + 1, by omega, congrArg _ HV.out, rfl, by congr 1, rfl, rfl, by simp, by congr 1, by congr 1, rfl, by first | rfl | trivial⟩, by simp [intOf]; omega⟩
          · replace e48 : ((b : Int) == 48) = false := by simpa using e48
            go_wp2
            refine ⟨⟨j + 1, by omega, congrArg _ HV.out, rfl, by congr 1, rfl, rfl, by simp, by congr 1, by congr 1, rfl, by first | rfl | trivial⟩, by simp [intOf]; omega⟩
      · have hn2 : 0 < n := HD.out.2
        obtain rfl : j = n := by omega
        rw [show (decL m).take j = decL m by rw [List.take_of_length_le (by rw [HN.out]; exact Nat.le_refl _)], mval_dec]
        have hm1 : ((m : Int) != 0) = true := bne_iff_ne.2 (by have := HH0.out; omega)
        have hNe : NN = j := HNN.out.1.symm
        subst hNe
        go_wp2
        try rw [Exit.noGoto_ret]
        refine bodyPost_ret (v := .tuple #[.int .u64 m, .int .i64 0, .bool false, .bool false, .bool false, .int .i64 ((NN : Nat) : Int), .bool true]) ?_ rfl ⟨rfl, rfl⟩
        simp [results, Tryz.results220]
set_option maxHeartbeats 8000000 in
set_option maxRecDepth 100000 in
theorem rf_neg (m : Nat) (h0 : 0 < m) (h1 : m ≤ 9007199254740992) (S : ByteArray) (hS : S.data.toList = 45 :: decL m) (w : World) :
    Calls Tryz.prog 220 #[.string S] w fun e w' => e = .returned (.tuple #[.int .u64 m, .int .i64 0, .bool true, .bool false, .bool false, .int .i64 (((decL m).length + 1 : Nat) : Int), .bool true]) ∧ w' = w := by
  have HD : Aside0 ((decL m).length ≤ 16 ∧ 0 < (decL m).length) := ⟨decL_len16 h1, decL_pos m⟩
  have hsz : S.size = (decL m).length + 1 := by rw [ba_size, hS]; rfl
  have HB : Aside0 (∀ j, j < (decL m).length → bt S ((j + 1 : Nat) : Int) = (((decL m).getD j 0).toNat : Int)) := ⟨fun j hj => by
    rw [bt_list S (j + 1) (by omega), hS]; rfl⟩
  have HDG : Aside0 (∀ j, j < (decL m).length → 48 ≤ ((decL m).getD j 0).toNat ∧ ((decL m).getD j 0).toNat ≤ 57) := ⟨fun j hj => decL_digit m _ (by rw [List.getD_eq_getElem?_getD, List.getElem?_eq_getElem hj]; exact List.getElem_mem _)⟩
  have HH0 := Aside0.mk (And.intro h0 h1)
  have hf := decL_first m h0
  have hf2 := HDG.out 0 HD.out.2
  have HS0 : Aside0 (S.data.toList = 45 :: decL m) := ⟨hS⟩
  have hbb : ∀ i (h : i < S.size), ((S[i]'h).toNat : Int) = bt S i := fun i h => bt_at S i h
  generalize hn : (decL m).length = n at *
  have HN := Aside0.mk hn
  have hc1 : 48 < bt S 1 ∧ bt S 1 ≤ 57 := by rw [show ((1 : Int)) = ((1 : Nat) : Int) from rfl, HB.out 0 HD.out.2]; omega
  have hm0 : bt S 0 = 45 := by have := bt_list S 0 (by omega); rw [hS] at this; exact this
  have e43 : (bt S 0 == 43) = false := beq_eq_false_iff_ne.2 (by omega)
  have e45 : (bt S 0 == 45) = true := beq_iff_eq.2 hm0
  have e48 : (bt S 1 == 48) = false := beq_eq_false_iff_ne.2 (by omega)
  obtain ⟨NN, hNN⟩ : ∃ NN, n + 1 = NN := ⟨_, rfl⟩
  rw [hNN] at hsz ⊢
  have HNN := Aside0.mk (And.intro hNN hsz)
  have hN1 : (NN : Int) ≤ 17 := by have := HD.out; omega
  have hN2 : 1 < NN := by have := HD.out.2; omega
  have hN3 : ¬ NN = 0 := by omega
  clear hn hf hf2 h0 h1 hc1 hS hm0 hNN
  have hw : Aside0 (∀ x : Int, 0 ≤ x → x < 18446744073709551616 → IntKind.u64.wrap x = x) := ⟨fun x h1 h2 => by show x % 18446744073709551616 = x; omega⟩
  by_cases hl2 : (3 : Int) < (NN : Int)
  · go_enter Tryz.func220, Tryz.ntmps220
    go_wp2
    go_step3
    go_wp2
    go_step3
    go_wp2
    clear e43 e45 e48 hN2 hN3 hl2
    go_loopw [2, 5, 7, 9, 13, 14, 15, 16, 17] (fun v2 v5 v7 v9 v13 v14 v15 v16 v17 w' => ∃ j : Nat, j ≤ n ∧ v2 = .int .u64 (mval ((decL m).take j) : Int) ∧ v5 = .bool false ∧ v7 = .int .i64 ((j + 1 : Nat) : Int) ∧ v9 = .bool false ∧ v13 = .bool false ∧ v14 = .bool (decide (0 < j)) ∧ v15 = .int .i64 (j : Int) ∧ v16 = .int .i64 (j : Int) ∧ v17 = .int .i64 0 ∧ w' = w) (fun _ _ v7 _ _ _ _ _ _ _ => NN - (intOf v7).toNat)
    case atStart => exact ⟨0, by omega, rfl, rfl, rfl, rfl, rfl, rfl, rfl, rfl, rfl, rfl⟩
    case round =>
      obtain ⟨j, hj, rfl, rfl, rfl, rfl, rfl, rfl, rfl, rfl, rfl, rfl⟩ := hrel
      clear hbb
      by_cases hlt : j < n
      · have hb : ∀ h : j + 1 < S.size, ((S[j + 1]'h).toNat : Int) = bt S ((j + 1 : Nat) : Int) := bt_at S ((j + 1 : Nat) : Int)
        have hbv := HB.out j hlt
        have hbd := HDG.out j hlt
        have HMV := Aside0.mk (mval_succ (decL m) j (by rw [HN.out]; exact hlt))
        have HF := Aside0.mk (show j = 0 → ((decL m).getD j 0).toNat ≠ 48 by rintro rfl; exact decL_first m HH0.out.1)
        have HML : Aside0 (mval ((decL m).take j) ≤ 9007199254740992 ∧ mval ((decL m).take (j + 1)) ≤ 9007199254740992) := ⟨Nat.le_trans (mval_take m j) HH0.out.2, Nat.le_trans (mval_take m (j + 1)) HH0.out.2⟩
        rw [hbv] at hb
        clear hbv
        generalize ((decL m).getD j 0).toNat = b at *
        have hlt2 : j + 1 < NN := by have := HNN.out; omega
        have e95 : ((b : Int) == 95) = false := beq_eq_false_iff_ne.2 (by omega)
        have e46 : ((b : Int) == 46) = false := beq_eq_false_iff_ne.2 (by omega)
        have l48 : (48 : Int) ≤ (b : Int) := by omega
        have l57 : (b : Int) ≤ 57 := by omega
        have lj : (j : Int) < 19 := by have := HD.out; omega
        have ej : j = 0 ∨ ((j : Int) == 0) = false := by rcases Nat.eq_zero_or_pos j with h | h; exact .inl h; exact .inr (beq_eq_false_iff_ne.2 (by omega))
        generalize hM : mval ((decL m).take j) = M at *
        replace hM := Aside0.mk hM
        have HV : Aside0 (IntKind.u64.wrap (IntKind.u64.wrap ((M : Int) * 10) + ((b : Int) - 48)) = ((mval ((decL m).take (j + 1)) : Nat) : Int)) := ⟨by
          have h1 := HMV.out
          have h2 := HML.out
          have e1 := hw.out ((M : Int) * 10) (by omega) (by omega)
          rw [e1, hw.out ((M : Int) * 10 + ((b : Int) - 48)) (by omega) (by omega), h1]
          omega⟩
        have HS2 : Aside0 (∀ i v : Nat, intOf (.int .i64 (i : Int)) = i) := ⟨fun _ _ => rfl⟩
        rcases ej with hj0 | hj0
        · have e48 : ((b : Int) == 48) = false := beq_eq_false_iff_ne.2 (by have := HF.out hj0; omega)
          clear HF HMV
          subst hj0
          have hb2 : ∀ h : 1 < S.size, ((S[1]'h).toNat : Int) = b := hb
          clear hb
          go_wp2
          refine ⟨⟨1, by omega, congrArg _ HV.out, rfl, rfl, rfl, rfl, rfl, rfl, rfl, rfl, by first | rfl | trivial⟩, by simp [intOf]; omega⟩
        · have hjp : 0 < j := by rcases Nat.eq_zero_or_pos j with h | h; (rw [h] at hj0; simp at hj0); exact h
          by_cases e48 : ((b : Int) == 48) = true
          · go_wp2
            refine ⟨⟨j + 1, by omega, congrArg _ HV.out, rfl, by congr 1, rfl, rfl, by simp, by congr 1, by congr 1, rfl, by first | rfl | trivial⟩, by simp [intOf]; omega⟩
          · replace e48 : ((b : Int) == 48) = false := by simpa using e48
            go_wp2
            refine ⟨⟨j + 1, by omega, congrArg _ HV.out, rfl, by congr 1, rfl, rfl, by simp, by congr 1, by congr 1, rfl, by first | rfl | trivial⟩, by simp [intOf]; omega⟩
      · have hn2 : 0 < n := HD.out.2
        obtain rfl : j = n := by omega
        rw [show (decL m).take j = decL m by rw [List.take_of_length_le (by rw [HN.out]; exact Nat.le_refl _)], mval_dec]
        have hm1 : ((m : Int) != 0) = true := bne_iff_ne.2 (by have := HH0.out; omega)
        have hNe : NN = j + 1 := HNN.out.1.symm
        subst hNe
        go_wp2
        try rw [Exit.noGoto_ret]
        refine bodyPost_ret (v := .tuple #[.int .u64 m, .int .i64 0, .bool true, .bool false, .bool false, .int .i64 ((j + 1 : Nat) : Int), .bool true]) ?_ rfl ⟨rfl, rfl⟩
        simp [results, Tryz.results220]
  · go_enter Tryz.func220, Tryz.ntmps220
    go_wp2
    go_step3
    go_wp2
    go_step3
    go_wp2
    clear e43 e45 e48 hN2 hN3 hl2
    go_loopw [2, 5, 7, 9, 13, 14, 15, 16, 17] (fun v2 v5 v7 v9 v13 v14 v15 v16 v17 w' => ∃ j : Nat, j ≤ n ∧ v2 = .int .u64 (mval ((decL m).take j) : Int) ∧ v5 = .bool false ∧ v7 = .int .i64 ((j + 1 : Nat) : Int) ∧ v9 = .bool false ∧ v13 = .bool false ∧ v14 = .bool (decide (0 < j)) ∧ v15 = .int .i64 (j : Int) ∧ v16 = .int .i64 (j : Int) ∧ v17 = .int .i64 0 ∧ w' = w) (fun _ _ v7 _ _ _ _ _ _ _ => NN - (intOf v7).toNat)
    case atStart => exact ⟨0, by omega, rfl, rfl, rfl, rfl, rfl, rfl, rfl, rfl, rfl, rfl⟩
    case round =>
      obtain ⟨j, hj, rfl, rfl, rfl, rfl, rfl, rfl, rfl, rfl, rfl, rfl⟩ := hrel
      clear hbb
      by_cases hlt : j < n
      · have hb : ∀ h : j + 1 < S.size, ((S[j + 1]'h).toNat : Int) = bt S ((j + 1 : Nat) : Int) := bt_at S ((j + 1 : Nat) : Int)
        have hbv := HB.out j hlt
        have hbd := HDG.out j hlt
        have HMV := Aside0.mk (mval_succ (decL m) j (by rw [HN.out]; exact hlt))
        have HF := Aside0.mk (show j = 0 → ((decL m).getD j 0).toNat ≠ 48 by rintro rfl; exact decL_first m HH0.out.1)
        have HML : Aside0 (mval ((decL m).take j) ≤ 9007199254740992 ∧ mval ((decL m).take (j + 1)) ≤ 9007199254740992) := ⟨Nat.le_trans (mval_take m j) HH0.out.2, Nat.le_trans (mval_take m (j + 1)) HH0.out.2⟩
        rw [hbv] at hb
        clear hbv
        generalize ((decL m).getD j 0).toNat = b at *
        have hlt2 : j + 1 < NN := by have := HNN.out; omega
        have e95 : ((b : Int) == 95) = false := beq_eq_false_iff_ne.2 (by omega)
        have e46 : ((b : Int) == 46) = false := beq_eq_false_iff_ne.2 (by omega)
        have l48 : (48 : Int) ≤ (b : Int) := by omega
        have l57 : (b : Int) ≤ 57 := by omega
        have lj : (j : Int) < 19 := by have := HD.out; omega
        have ej : j = 0 ∨ ((j : Int) == 0) = false := by rcases Nat.eq_zero_or_pos j with h | h; exact .inl h; exact .inr (beq_eq_false_iff_ne.2 (by omega))
        generalize hM : mval ((decL m).take j) = M at *
        replace hM := Aside0.mk hM
        have HV : Aside0 (IntKind.u64.wrap (IntKind.u64.wrap ((M : Int) * 10) + ((b : Int) - 48)) = ((mval ((decL m).take (j + 1)) : Nat) : Int)) := ⟨by
          have h1 := HMV.out
          have h2 := HML.out
          have e1 := hw.out ((M : Int) * 10) (by omega) (by omega)
          rw [e1, hw.out ((M : Int) * 10 + ((b : Int) - 48)) (by omega) (by omega), h1]
          omega⟩
        have HS2 : Aside0 (∀ i v : Nat, intOf (.int .i64 (i : Int)) = i) := ⟨fun _ _ => rfl⟩
        rcases ej with hj0 | hj0
        · have e48 : ((b : Int) == 48) = false := beq_eq_false_iff_ne.2 (by have := HF.out hj0; omega)
          clear HF HMV
          subst hj0
          have hb2 : ∀ h : 1 < S.size, ((S[1]'h).toNat : Int) = b := hb
          clear hb
          go_wp2
          refine ⟨⟨1, by omega, congrArg _ HV.out, rfl, rfl, rfl, rfl, rfl, rfl, rfl, rfl, by first | rfl | trivial⟩, by simp [intOf]; omega⟩
        · have hjp : 0 < j := by rcases Nat.eq_zero_or_pos j with h | h; (rw [h] at hj0; simp at hj0); exact h
          by_cases e48 : ((b : Int) == 48) = true
          · go_wp2
            refine ⟨⟨j + 1, by omega, congrArg _ HV.out, rfl, by congr 1, rfl, rfl, by simp, by congr 1, by congr 1, rfl, by first | rfl | trivial⟩, by simp [intOf]; omega⟩
          · replace e48 : ((b : Int) == 48) = false := by simpa using e48
            go_wp2
            refine ⟨⟨j + 1, by omega, congrArg _ HV.out, rfl, by congr 1, rfl, rfl, by simp, by congr 1, by congr 1, rfl, by first | rfl | trivial⟩, by simp [intOf]; omega⟩
      · have hn2 : 0 < n := HD.out.2
        obtain rfl : j = n := by omega
        rw [show (decL m).take j = decL m by rw [List.take_of_length_le (by rw [HN.out]; exact Nat.le_refl _)], mval_dec]
        have hm1 : ((m : Int) != 0) = true := bne_iff_ne.2 (by have := HH0.out; omega)
        have hNe : NN = j + 1 := HNN.out.1.symm
        subst hNe
        go_wp2
        try rw [Exit.noGoto_ret]
        refine bodyPost_ret (v := .tuple #[.int .u64 m, .int .i64 0, .bool true, .bool false, .bool false, .int .i64 ((j + 1 : Nat) : Int), .bool true]) ?_ rfl ⟨rfl, rfl⟩
        simp [results, Tryz.results220]
end Go.Proofs.YtabfglmpnkgecaaGreatDoor.X

-- Written by a program of this claim's session (after the kit's print, with a kind for float64). Lean checks it.
namespace Go.Proofs.YtabfglmpnkgecaaGreatDoor.Q
open Go.RowKit Go.Proofs.YtabfglmpnkgecaaGreatDoorW.PrintWords Go.Proofs.YtabfglmpnkgecaaGreatDoorW.PrintLast Go.Proofs.YtabfglmpnkgecaaGreatDoorW.PrintMore
attribute [local go_sem] max2_int min2_int max_two min_two max_three min_three max_four min_four   -- for this text's walks alone
set_option linter.unusedVariables false
set_option linter.unusedSimpArgs false

/-! ### bits_Mul64: function 252 -/
def bits_Mul64.f (a0 : Int) (a1 : Int) : Option (Int × Int) := some (IntKind.u64.wrap ((IntKind.u64.wrap ((IntKind.u64.wrap ((a0 / 4294967296) * (a1 / 4294967296))) + ((IntKind.u64.wrap ((IntKind.u64.wrap ((a0 / 4294967296) * (Go.bits .and .u64 a1 4294967295))) + ((IntKind.u64.wrap ((Go.bits .and .u64 a0 4294967295) * (Go.bits .and .u64 a1 4294967295))) / 4294967296))) / 4294967296))) + ((IntKind.u64.wrap ((Go.bits .and .u64 (IntKind.u64.wrap ((IntKind.u64.wrap ((a0 / 4294967296) * (Go.bits .and .u64 a1 4294967295))) + ((IntKind.u64.wrap ((Go.bits .and .u64 a0 4294967295) * (Go.bits .and .u64 a1 4294967295))) / 4294967296))) 4294967295) + (IntKind.u64.wrap ((Go.bits .and .u64 a0 4294967295) * (a1 / 4294967296))))) / 4294967296)), IntKind.u64.wrap (a0 * a1))
set_option maxHeartbeats 8000000 in
set_option maxRecDepth 100000 in
theorem bits_Mul64.calls (a0 : Int) (a1 : Int) (r1 : Int) (r2 : Int) (w : World) (h : bits_Mul64.f a0 a1 = some (r1, r2)) :
    Calls Tryz.prog 252 #[.int .u64 a0, .int .u64 a1] w fun e w' => e = .returned (.tuple #[.int .u64 r1, .int .u64 r2]) ∧ Drawn0 w w' := by
  have H : (some (IntKind.u64.wrap ((IntKind.u64.wrap ((IntKind.u64.wrap ((a0 / 4294967296) * (a1 / 4294967296))) + ((IntKind.u64.wrap ((IntKind.u64.wrap ((a0 / 4294967296) * (Go.bits .and .u64 a1 4294967295))) + ((IntKind.u64.wrap ((Go.bits .and .u64 a0 4294967295) * (Go.bits .and .u64 a1 4294967295))) / 4294967296))) / 4294967296))) + ((IntKind.u64.wrap ((Go.bits .and .u64 (IntKind.u64.wrap ((IntKind.u64.wrap ((a0 / 4294967296) * (Go.bits .and .u64 a1 4294967295))) + ((IntKind.u64.wrap ((Go.bits .and .u64 a0 4294967295) * (Go.bits .and .u64 a1 4294967295))) / 4294967296))) 4294967295) + (IntKind.u64.wrap ((Go.bits .and .u64 a0 4294967295) * (a1 / 4294967296))))) / 4294967296)), IntKind.u64.wrap (a0 * a1))) = some (r1, r2) := h
  clear h
  simp only [Option.some.injEq, Prod.mk.injEq] at H
  obtain ⟨rfl, rfl⟩ := H
  go_enter Tryz.func252, Tryz.ntmps252
  go_wp2
  go_ret2
  exact ⟨by first | rfl | (simp; done) | (simp [*]; done), by repeat (first | exact Drawn0.refl _ | apply Drawn0.step)⟩

end Go.Proofs.YtabfglmpnkgecaaGreatDoor.Q

/- parseFloat64's parts at whole numbers from 2^52 to 2^53. -/
namespace Go.Proofs.YtabfglmpnkgecaaGreatDoor.X
open Go.RowKit Go.Proofs.YtabfglmpnkgecaaGreatDoorW.PrintWords Go.Proofs.YtabfglmpnkgecaaGreatDoorW.PrintLast Go.Proofs.YtabfglmpnkgecaaGreatDoorW.PrintMore Go.Proofs.YtabfglmpnkgecaaGreatDoor.Q

set_option maxHeartbeats 4000000 in
set_option maxRecDepth 100000 in
theorem len64_a (m : Nat) (h1 : 4503599627370496 ≤ m) (h2 : m < 9007199254740992) (w : World) :
    Calls Tryz.prog 240 #[.int .u64 m] w fun e w' => e = .returned (.int .i64 53) ∧ w' = w := by
  have q1 : (4294967296 : Int) ≤ (m : Int) := by omega
  obtain ⟨x, hx⟩ : ∃ x : Nat, m / 4294967296 = x := ⟨_, rfl⟩
  obtain ⟨y, hy⟩ : ∃ y : Nat, x / 65536 = y := ⟨_, rfl⟩
  have q2 : (65536 : Int) ≤ (x : Int) := by omega
  have q3 : 16 ≤ y ∧ y < 32 := by omega
  have e1 : (m : Int) / 4294967296 = (x : Int) := by omega
  have e2 : (x : Int) / 65536 = (y : Int) := by omega
  have q4 : ¬ (256 : Int) ≤ (y : Int) := by omega
  clear hx hy
  go_enter Tryz.func240, Tryz.ntmps240
  go_wp2
  go_ret
  have key : ∀ z : Nat, z = 5 → Ending.returned (Value.int .i64 (wrap64 (48 + wrap64 (z : Int)))) = Ending.returned (Value.int .i64 53) := by rintro z rfl; rw [show wrap64 (48 + wrap64 ((5 : Nat) : Int)) = 53 by unfold wrap64; omega]
  refine ⟨key _ ?_, rfl⟩
  have q5 : y = 16 ∨ y = 17 ∨ y = 18 ∨ y = 19 ∨ y = 20 ∨ y = 21 ∨ y = 22 ∨ y = 23 ∨ y = 24 ∨ y = 25 ∨ y = 26 ∨ y = 27 ∨ y = 28 ∨ y = 29 ∨ y = 30 ∨ y = 31 := by omega
  rcases q5 with rfl | rfl | rfl | rfl | rfl | rfl | rfl | rfl | rfl | rfl | rfl | rfl | rfl | rfl | rfl | rfl <;> rfl
set_option maxHeartbeats 4000000 in
set_option maxRecDepth 100000 in
theorem len64_b (w : World) :
    Calls Tryz.prog 240 #[.int .u64 9007199254740992] w fun e w' => e = .returned (.int .i64 54) ∧ w' = w := by
  go_enter Tryz.func240, Tryz.ntmps240
  go_wp2
  go_ret
  exact ⟨by kernel_rfl, rfl⟩
theorem lp0 (w : World) : Calls Tryz.prog 241 #[.int .i64 0] w fun e w' => e = .returned (.int .i64 0) ∧ w' = w := by
  go_enter Tryz.func241, Tryz.ntmps241
  go_wp2
  go_ret
  exact ⟨rfl, rfl⟩
/-- The table of the powers of ten, at 10^0. -/
def TabAt (W : World) : Prop := W.cell? ⟨11, 696, none⟩ = some (.int .u64 9223372036854775808) ∧ W.cell? ⟨11, 697, none⟩ = some (.int .u64 0)
/-- Block b holds a scaler. -/
def ScAt (b : Nat) (hi lo s : Int) (W : World) : Prop := W.heap[b]? = some (.cells #[.int .u64 hi, .int .u64 lo, .int .i64 s] 188 (0, 0))
set_option maxHeartbeats 4000000 in
set_option maxRecDepth 100000 in
theorem prescale_calls (b : Nat) (w : World) (ht : TabAt w) (hb : ScAt b 0 0 0 w) (h11 : 11 < b) :
    Calls Tryz.prog 242 #[.pointer (some ⟨b, 0, none⟩), .int .i64 (-11), .int .i64 0, .int .i64 0] w fun e w' => e = .returned (.tuple #[]) ∧ ScAt b 9223372036854775808 0 8 w' ∧ Below b w w' := by
  have h0 := ht.1
  have h1 := ht.2
  have hu := Tryz.underlying188
  have hu2 := Tryz.underlying205
  have hu3 := Tryz.underlying206
  have z0 : ∀ j, w.cell? ⟨b, j, none⟩ = (#[.int .u64 0, .int .u64 0, .int .i64 0] : Array Value)[j]? := fun j => blk_cell hb j
  have f0 : ∀ j, w.frozen? ⟨b, j, none⟩ = false := fun j => blk_frozen hb j
  have hne : b ≠ 11 := by omega
  have hne2 : 11 ≠ b := by omega
  go_enter Tryz.func242, Tryz.ntmps242
  go_wp2
  refine bodyPost_end (v := .tuple #[]) (by simp [results, Tryz.results242]) rfl ?_
  have q0 := hb
  have p0 := blk_put q0 0 (.int .u64 9223372036854775808) (cs' := #[.int .u64 9223372036854775808, .int .u64 0, .int .i64 0]) rfl
  have p1 := blk_put p0 1 (.int .u64 0) (cs' := #[.int .u64 9223372036854775808, .int .u64 0, .int .i64 0]) rfl
  have p2 := blk_put p1 2 (.int .i64 8) (cs' := #[.int .u64 9223372036854775808, .int .u64 0, .int .i64 8]) rfl
  refine ⟨rfl, p2, ?_⟩
  refine Below.setCell (Below.setCell (Below.setCell (Below.refl _ _) ?_ _) ?_ _) ?_ _ <;> exact Nat.le_refl _
theorem uwrap (x : Int) (h1 : 0 ≤ x) (h2 : x < 18446744073709551616) : IntKind.u64.wrap x = x := by show x % 18446744073709551616 = x; omega
theorem mask32 (x : Int) (h0 : 0 ≤ x) (h1 : x < 18446744073709551616) : bits .and .u64 x 4294967295 = x % 4294967296 :=
  bits_mask .u64 64 (by decide) (fun n h0 h1 => uwrap n h0 (by simpa using h1)) 32 (by decide) x h0 h1
set_option maxRecDepth 100000 in
theorem mul_a (Y : Nat) (hY : Y < 36028797018963968) : bits_Mul64.f ((Y * 512 : Nat) : Int) 9223372036854775808 = some (((Y * 256 : Nat) : Int), 0) := by
  unfold bits_Mul64.f
  have e1 : (9223372036854775808 : Int) / 4294967296 = 2147483648 := by decide
  have e2 : bits .and .u64 9223372036854775808 4294967295 = 0 := by decide
  rw [e1, e2, mask32 _ (by omega) (by omega)]
  obtain ⟨a1, ha1⟩ : ∃ a1 : Int, ((Y * 512 : Nat) : Int) / 4294967296 = a1 := ⟨_, rfl⟩
  obtain ⟨a0, ha0⟩ : ∃ a0 : Int, ((Y * 512 : Nat) : Int) % 4294967296 = a0 := ⟨_, rfl⟩
  rw [ha1, ha0]
  have f1 : IntKind.u64.wrap (a0 * 0) = 0 := by rw [Int.mul_zero]; decide
  have f2 : IntKind.u64.wrap (a1 * 0) = 0 := by rw [Int.mul_zero]; decide
  have f3 : (0 : Int) / 4294967296 = 0 := by decide
  have f4 : IntKind.u64.wrap (0 + 0) = 0 := by decide
  have f5 : IntKind.u64.wrap (a0 * 2147483648) = a0 * 2147483648 := uwrap _ (by omega) (by omega)
  have f6 : IntKind.u64.wrap (a1 * 2147483648) = a1 * 2147483648 := uwrap _ (by omega) (by omega)
  have f7 : bits .and .u64 0 4294967295 = 0 := by decide
  rw [f1, f2, f3, f4, f5, f6, f7, f3, Int.add_zero, Int.zero_add, f5, f6, uwrap (a1 * 2147483648 + a0 * 2147483648 / 4294967296) (by omega) (by omega)]
  congr 2
  · omega
  · show ((Y * 512 : Nat) : Int) * 9223372036854775808 % 18446744073709551616 = 0
    omega
set_option maxRecDepth 100000 in
theorem mul_0 (x : Int) (h0 : 0 ≤ x) (h1 : x < 18446744073709551616) : bits_Mul64.f x 0 = some (0, 0) := by
  unfold bits_Mul64.f
  have e1 : (0 : Int) / 4294967296 = 0 := by decide
  have e2 : bits .and .u64 0 4294967295 = 0 := by decide
  have f4 : IntKind.u64.wrap (0 + 0) = 0 := by decide
  have f5 : IntKind.u64.wrap 0 = 0 := by decide
  rw [e1, e2]
  simp only [Int.mul_zero, f5, e1, f4, e2]
theorem bool2f (w : World) : Calls Tryz.prog 228 #[.bool false] w fun e w' => e = .returned (.int .u64 0) ∧ w' = w := by
  go_enter Tryz.func228, Tryz.ntmps228
  go_wp2
  go_ret
  exact ⟨rfl, rfl⟩
theorem or0 (x : Int) (h0 : 0 ≤ x) (h1 : x < 18446744073709551616) : bits .or .u64 x 0 = x := by
  have := bits_join .u64 64 (by decide) (fun n h0 h1 => uwrap n h0 (by simpa using h1)) 0 x 0 h0 (by simp) (by simpa using h1) (by decide) (by decide) (by decide)
  simpa using this
set_option maxHeartbeats 4000000 in
set_option maxRecDepth 100000 in
/-- What uscale answers where the power is 10^0 and nothing is cut off. -/
theorem uscale_calls (Y : Nat) (hY : Y < 36028797018963968) (b : Nat) (w : World) (hb : ScAt b 9223372036854775808 0 8 w) :
    Calls Tryz.prog 243 #[.int .u64 ((Y * 512 : Nat) : Int), .pointer (some ⟨b, 0, none⟩)] w fun e w' => e = .returned (.int .u64 (Y : Int)) ∧ ∃ n, w' = w.drewN n := by
  have hu := Tryz.underlying188
  have m1 := fun W => bits_Mul64.calls _ _ _ _ W (mul_a Y hY)
  have m2 := fun W => bits_Mul64.calls _ _ _ _ W (mul_0 ((Y * 512 : Nat) : Int) (by omega) (by omega))
  obtain ⟨X, hX⟩ : ∃ X : Int, ((Y * 512 : Nat) : Int) = X := ⟨_, rfl⟩
  obtain ⟨H, hH⟩ : ∃ H : Int, ((Y * 256 : Nat) : Int) = H := ⟨_, rfl⟩
  rw [hX] at m1 m2 ⊢
  rw [hH] at m1
  unfold ScAt at hb
  generalize (9223372036854775808 : Int) = P at *
  have M1 := Aside0.mk m1
  have M2 := Aside0.mk m2
  have HBB := Aside0.mk hb
  have z0 : ∀ j, w.cell? ⟨b, j, none⟩ = (#[.int .u64 P, .int .u64 0, .int .i64 8] : Array Value)[j]? := fun j => blk_cell hb j
  have b63 : bits BinOp.and .i64 8 63 = 8 := by decide
  have hHe : (H / 256 * 256 != H) = false := bne_eq_false_iff_eq.2 (by omega)
  have hHy : H / 256 = (Y : Int) := by omega
  clear m1 m2 hb
  go_enter Tryz.func243, Tryz.ntmps243
  go_upto_region 2 with (go_at_call 252; refine (M1.out _).mono ?_; rintro e w1 ⟨rfl, n1, hd1⟩; subst hd1; have z1 : ∀ j, (w.drewN n1).cell? ⟨b, j, none⟩ = (#[.int .u64 P, .int .u64 0, .int .i64 8] : Array Value)[j]? := fun j => blk_cell (blk_drewN HBB.out n1) j)
  go_upto_region 5 with (fail)
  go_upto_region 6 with (go_at_call 252; refine (M2.out _).mono ?_; rintro e w2 ⟨rfl, n2, hd2⟩; subst hd2)
  go_upto_region 7 with (go_at_call 228; go_in)
  have HD : Aside0 (∃ n, (w.drewN (n1 + n2)) = w.drewN n) := ⟨_, rfl⟩
  try rw [World.drewN_drewN]
  generalize w.drewN (n1 + n2) = W2 at *
  have hw0 : IntKind.u64.wrap 0 = 0 := by decide
  have ho0 : bits BinOp.or IntKind.u64 (Y : Int) 0 = (Y : Int) := or0 _ (by omega) (by omega)
  go_quiet (first | (go_at_call 228; exact Calls.quiet_of_same (bool2f _)))
  obtain ⟨n3, hn3⟩ := HD.out
  subst hn3
  go_wp2
  go_ret
  exact ⟨rfl, n3 + nq, World.drewN_drewN _ _ _⟩
end Go.Proofs.YtabfglmpnkgecaaGreatDoor.X

/- pack64 at the words of whole numbers from 2^52 to 2^53. -/
namespace Go.Proofs.YtabfglmpnkgecaaGreatDoor.X
open Go.RowKit Go.Proofs.YtabfglmpnkgecaaGreatDoorW.PrintWords Go.Proofs.YtabfglmpnkgecaaGreatDoorW.PrintLast Go.Proofs.YtabfglmpnkgecaaGreatDoorW.PrintMore Go.Proofs.YtabfglmpnkgecaaGreatDoor.Q

theorem and52 (a b y z : Nat) (hy : y < 2 ^ 52) (hz : z < 2 ^ 52) : (2 ^ 52 * a + y) &&& (2 ^ 52 * b + z) = 2 ^ 52 * (a &&& b) + (y &&& z) := by
  apply Nat.eq_of_testBit_eq
  intro i
  rw [Nat.testBit_and, Nat.testBit_two_pow_mul_add _ hy, Nat.testBit_two_pow_mul_add _ hz, Nat.testBit_two_pow_mul_add _ (Nat.and_lt_two_pow _ hz)]
  split <;> rw [Nat.testBit_and]
theorem or52 (a b y z : Nat) (hy : y < 2 ^ 52) (hz : z < 2 ^ 52) : (2 ^ 52 * a + y) ||| (2 ^ 52 * b + z) = 2 ^ 52 * (a ||| b) + (y ||| z) := by
  apply Nat.eq_of_testBit_eq
  intro i
  rw [Nat.testBit_or, Nat.testBit_two_pow_mul_add _ hy, Nat.testBit_two_pow_mul_add _ hz, Nat.testBit_two_pow_mul_add _ (Nat.or_lt_two_pow hy hz)]
  split <;> rw [Nat.testBit_or]
theorem p52 : (2 : Nat) ^ 52 = 4503599627370496 := by decide
/-- A word of sign and exponent q, fraction y. -/
def wd (q y : Nat) : Nat := 4503599627370496 * q + y
theorem wd_and (q y : Nat) (hq : q = 1 ∨ q = 2049) (hy : y < 4503599627370496) : bits .and .u64 (wd q y : Int) 4503599627370496 = 4503599627370496 := by
  have h := u64_and_nat (wd q y) 4503599627370496 (by unfold wd; omega) (by decide)
  have e : wd q y &&& 4503599627370496 = 4503599627370496 := by
    have h2 := and52 q 1 y 0 (by rw [p52]; exact hy) (by decide)
    rw [p52] at h2
    unfold wd
    rw [show (4503599627370496 : Nat) * 1 + 0 = 4503599627370496 by decide] at h2
    rw [h2, Nat.and_zero]
    rcases hq with rfl | rfl <;> decide
  rw [e] at h
  exact h
theorem wd_not (q y : Nat) (hq : q = 1 ∨ q = 2049) (hy : y < 4503599627370496) : bits .andNot .u64 (wd q y : Int) 4503599627370496 = (wd (q - 1) y : Int) := by
  have h := u64_andNot_nat (wd q y) 4503599627370496 (by unfold wd; omega) (by decide)
  have e : wd q y &&& (18446744073709551615 - 4503599627370496) = wd (q - 1) y := by
    have h2 := and52 q 4094 y 4503599627370495 (by rw [p52]; exact hy) (by decide)
    rw [p52] at h2
    rw [show (4503599627370496 : Nat) * 4094 + 4503599627370495 = 18446744073709551615 - 4503599627370496 by decide] at h2
    have h3 : y &&& 4503599627370495 = y := by
      have := Nat.and_two_pow_sub_one_eq_mod y 52
      rw [p52] at this
      rw [show (4503599627370495 : Nat) = 4503599627370496 - 1 by decide, this]
      exact Nat.mod_eq_of_lt hy
    unfold wd
    rw [h2, h3]
    rcases hq with rfl | rfl <;> rfl
  rw [e] at h
  exact h
theorem wd_or (q y E : Nat) (hq : q = 1 ∨ q = 2049) (hE : E = 1075 ∨ E = 1076) (hy : y < 4503599627370496) : bits .or .u64 (wd (q - 1) y : Int) ((E * 4503599627370496 : Nat) : Int) = (wd (q - 1 + E) y : Int) := by
  have h := u64_or_nat (wd (q - 1) y) (E * 4503599627370496) (by unfold wd; omega) (by omega)
  have e : wd (q - 1) y ||| (E * 4503599627370496) = wd (q - 1 + E) y := by
    have h2 := or52 (q - 1) E y 0 (by rw [p52]; exact hy) (by decide)
    rw [p52, Nat.add_zero, Nat.mul_comm 4503599627370496 E] at h2
    unfold wd
    rw [h2, Nat.or_zero]
    rcases hq with rfl | rfl <;> rcases hE with rfl | rfl <;> rfl
  rw [e] at h
  exact h
theorem frombits_run (n : Nat) (w : World) : (callFunc 229 #[.int .u64 n]).run Tryz.prog w = .ok (.value (.float .f64 n)) w := by
  rw [run_callFunc_extern Tryz.func229 (by kernel_rfl) (by kernel_rfl) (by kernel_rfl) (e := Extern.MathFloatBits.float64frombits) (by kernel_rfl)]
  rfl
set_option maxHeartbeats 4000000 in
set_option maxRecDepth 100000 in
theorem pack64_calls (q y : Nat) (E : Nat) (hq : q = 1 ∨ q = 2049) (hE : E = 1075 ∨ E = 1076) (hy : y < 4503599627370496) (w : World) :
    Calls Tryz.prog 250 #[.int .u64 (wd q y : Int), .int .i64 ((E : Int) - 1075)] w fun e w' => e = .returned (.tuple #[.float .f64 (wd (q - 1 + E) y), .nilIface]) ∧ w' = w := by
  have e1 := wd_and q y hq hy
  have e2 := wd_not q y hq hy
  have e3 := wd_or q y E hq hE hy
  have e4 := frombits_run (wd (q - 1 + E) y)
  have c1 : (E : Int) - 1075 < 972 := by omega
  obtain ⟨eE, heE⟩ : ∃ x : Int, (E : Int) - 1075 = x := ⟨_, rfl⟩
  have c2 : wrap64 (1075 + eE) = (E : Int) := by unfold wrap64; omega
  have c3 : IntKind.u64.wrap (E : Int) = (E : Int) := uwrap _ (by omega) (by omega)
  have c4 : IntKind.u64.wrap ((E : Int) * 4503599627370496) = ((E * 4503599627370496 : Nat) : Int) := by rw [uwrap _ (by omega) (by omega)]; omega
  rw [show ((E * 4503599627370496 : Nat) : Int) = (1075 + eE) * 4503599627370496 by omega] at e3
  rw [heE] at c1 ⊢
  have c0 : 0 ≤ eE := by omega
  clear c2 c3 c4
  generalize wd q y = W1 at *
  generalize wd (q - 1) y = W2 at *
  generalize wd (q - 1 + E) y = W3 at *
  go_enter Tryz.func250, Tryz.ntmps250
  go_wp2
  go_ret2
  exact ⟨rfl, rfl⟩
/-- The parts of parseFloat64. -/
theorem unminX (w : World) : Calls Tryz.prog 245 #[.int .u64 9007199254740992] w fun e w' => e = .returned (.int .u64 36028797018963966) ∧ w' = w := by
  go_enter Tryz.func245, Tryz.ntmps245
  go_wp2
  go_ret
  exact ⟨rfl, rfl⟩
theorem bool2i (w : World) : Calls Tryz.prog 244 #[.bool false] w fun e w' => e = .returned (.int .i64 0) ∧ w' = w := by
  go_enter Tryz.func244, Tryz.ntmps244
  go_wp2
  go_ret
  exact ⟨rfl, rfl⟩
theorem and1 (x : Int) (h0 : 0 ≤ x) (h1 : x < 18446744073709551616) : bits .and .u64 x 1 = x % 2 :=
  bits_mask .u64 64 (by decide) (fun n h0 h1 => uwrap n h0 (by simpa using h1)) 1 (by decide) x h0 h1
set_option maxRecDepth 100000 in
theorem roundX (U : Nat) (hU : U < 9007199254740992) (w : World) : Calls Tryz.prog 247 #[.int .u64 ((U : Int) * 4)] w fun e w' => e = .returned (.int .u64 (U : Int)) ∧ w' = w := by
  have e1 : bits BinOp.and IntKind.u64 (U : Int) 1 = (U : Int) % 2 := and1 _ (by omega) (by omega)
  have q : ((U : Int) * 4) / 4 = (U : Int) := by omega
  have q2 : ((U : Int) * 4 + 1 + (U : Int) % 2) / 4 = (U : Int) := by omega
  have q3 : (0 : Int) ≤ (U : Int) % 2 ∧ (U : Int) % 2 ≤ 1 := by omega
  have q4 := q3.1
  have q5 := q3.2
  have b1 : (U : Int) < 9007199254740992 := by omega
  go_enter Tryz.func247, Tryz.ntmps247
  go_wp2
  go_ret
  exact ⟨rfl, rfl⟩
end Go.Proofs.YtabfglmpnkgecaaGreatDoor.X
