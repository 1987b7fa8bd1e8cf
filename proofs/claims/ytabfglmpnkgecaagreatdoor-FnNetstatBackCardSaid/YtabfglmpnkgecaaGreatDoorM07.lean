/- parseFloat64 at whole numbers from 2^52 to 2^53, with or without a sign. -/
import Derived.Test.YtabfglmpnkgecaaGreatDoorM06
import Derived.Test.YtabfglmpnkgecaaGreatDoorM01
import Derived.Laws.FloatArith
import Derived.Test.YtabfglmpnkgecaaGreatDoorM05
set_option linter.unusedVariables false
set_option linter.unusedSimpArgs false
namespace Go.Proofs.YtabfglmpnkgecaaGreatDoor.X
open Go.RowKit Go.Proofs.YtabfglmpnkgecaaGreatDoorW.PrintWords Go.Proofs.YtabfglmpnkgecaaGreatDoorW.PrintLast Go.Proofs.YtabfglmpnkgecaaGreatDoorW.PrintMore Go.Proofs.YtabfglmpnkgecaaGreatDoor.Q

/-- The sign as a word; sign and first bit. -/
def sw (neg : Bool) : Int := if neg then 9223372036854775808 else 0
def qw (neg : Bool) : Nat := if neg then 2049 else 1
theorem qw_is (neg : Bool) : qw neg = 1 ∨ qw neg = 2049 := by cases neg <;> simp [qw]
theorem sw_or (neg : Bool) (y : Nat) (hy : y < 4503599627370496) : bits .or .u64 (sw neg) ((4503599627370496 + y : Nat) : Int) = (wd (qw neg) y : Int) := by
  have h2 := or52 (if neg then 2048 else 0) 1 0 y (by decide) (by rw [p52]; exact hy)
  rw [p52] at h2
  cases neg
  · have h := u64_or_nat 0 (4503599627370496 + y) (by decide) (by omega)
    simp only [Bool.false_eq_true, if_false] at h2
    rw [show 4503599627370496 * 0 + 0 = 0 by decide, show 4503599627370496 * 1 + y = 4503599627370496 + y by omega] at h2
    rw [h2, Nat.zero_or] at h
    exact h.trans (by unfold wd qw; simp)
  · have h := u64_or_nat 9223372036854775808 (4503599627370496 + y) (by decide) (by omega)
    simp only [if_true] at h2
    rw [show 4503599627370496 * 2048 + 0 = 9223372036854775808 by decide, show 4503599627370496 * 1 + y = 4503599627370496 + y by omega] at h2
    rw [h2, Nat.zero_or] at h
    exact h.trans (by unfold wd qw; simp)
theorem blk_cell_alloc {w : World} {a : Addr} {v : Value} (h : w.cell? a = some v) (o : Obj) : (w.alloc o).cell? a = some v :=
  (World.cell?_of_block (Below.heap_alloc w o a.block (World.block_lt_of_cell? w _ h))).trans h
set_option maxHeartbeats 4000000 in
set_option maxRecDepth 100000 in
theorem pf64_a (neg : Bool) (m y : Nat) (hy : y < 4503599627370496)
    (hX : m * 2048 = (4503599627370496 + y) * 2048) (hlen : ∀ w : World, Calls Tryz.prog 240 #[.int .u64 m] w fun e w' => e = .returned (.int .i64 53) ∧ w' = w) (w : World) (ht : TabAt w) (h11 : 11 < w.heap.size) :
    Calls Tryz.prog 231 #[.int .u64 m, .int .i64 0, .int .u64 (sw neg)] w fun e w' => e = .returned (.tuple #[.float .f64 (wd (qw neg - 1 + 1075) y), .nilIface]) ∧ Below w.heap.size w w' := by
  have HLEN := Aside0.mk hlen
  have HT := Aside0.mk ht
  have H11 := Aside0.mk h11
  have HP := Aside0.mk (fun W => pack64_calls (qw neg) y 1075 (qw_is neg) (by decide) hy W)
  have HU := Aside0.mk (fun W b hb => uscale_calls ((4503599627370496 + y) * 4) (by omega) b W hb)
  have HR := Aside0.mk (fun W => roundX (4503599627370496 + y) (by omega) W)
  have hor := sw_or neg y hy
  have hu := Tryz.underlying188
  have hXi : (m : Int) * 2048 = (((4503599627370496 + y) * 4 * 512 : Nat) : Int) := by omega
  have hXb : (m : Int) * 2048 < 18446744073709551616 := by omega
  obtain ⟨U, hUe⟩ : ∃ U : Nat, 4503599627370496 + y = U := ⟨_, rfl⟩
  have hU1 : decide ((36028797018963966 : Int) ≤ ((U * 4 : Nat) : Int)) = false := decide_eq_false (by omega)
  have hU5 : ((U * 4 : Nat) : Int) < 36028797018963966 := by omega
  have hU2 : bits BinOp.and IntKind.u64 ((U * 4 : Nat) : Int) 1 = 0 := by rw [and1 _ (by omega) (by omega)]; omega
  have hU3 : bits BinOp.or IntKind.u64 ((U * 4 : Nat) : Int) 0 = ((U * 4 : Nat) : Int) := or0 _ (by omega) (by omega)
  have hU4 : ((U * 4 : Nat) : Int) = (U : Int) * 4 := by omega
  rw [hUe] at HU HR hor hXi
  rw [← hU4] at HR
  clear hlen ht h11 hUe hX hy hU4
  generalize ((U * 4 : Nat) : Int) = U4 at *
  generalize ((U * 4 * 512 : Nat) : Int) = U5 at *
  generalize wd (qw neg - 1 + 1075) y = RES at *
  generalize wd (qw neg) y = MW at *
  generalize (U : Int) = UI at *
  generalize sw neg = SW at *
  go_enter Tryz.func231, Tryz.ntmps231
  go_wp2_with (first | (go_at_call 240; refine (HLEN.out _).mono ?_; rintro e w1 ⟨rfl, rfl⟩) | (go_at_call 241; refine (lp0 _).mono ?_; rintro e w1 ⟨rfl, rfl⟩) | (go_at_call 242; refine (prescale_calls _ _ ⟨(blk_cell_alloc HT.out.1 _), (blk_cell_alloc HT.out.2 _)⟩ (blk_new _ _) H11.out).mono ?_; rintro e w2 ⟨rfl, hSc, hBs⟩; have HSC := Aside0.mk (And.intro hSc hBs); clear hBs; have zz : ∀ j, w2.cell? ⟨w1.heap.size, j, none⟩ = (#[.int .u64 9223372036854775808, .int .u64 0, .int .i64 8] : Array Value)[j]? := fun j => blk_cell hSc j; clear hSc) | (go_at_call 243; (try rw [hXi]); refine (HU.out _ _ HSC.out.1).mono ?_; rintro e w3 ⟨rfl, n3, rfl⟩) | (go_at_call 245; refine (unminX _).mono ?_; rintro e w4 ⟨rfl, rfl⟩) | (go_at_call 244; refine (bool2i _).mono ?_; rintro e w5 ⟨rfl, rfl⟩) | (go_at_call 247; refine (HR.out _).mono ?_; rintro e w6 ⟨rfl, rfl⟩) | (go_at_call 250; refine (HP.out _).mono ?_; rintro e w7 ⟨rfl, rfl⟩))
  go_ret2
  exact ⟨rfl, pw_below_drewN (below_low (below_alloc (Below.refl _ _) _) HSC.out.2 (Nat.le_refl _)) n3⟩
set_option maxHeartbeats 4000000 in
set_option maxRecDepth 100000 in
theorem pf64_b (neg : Bool) (m y : Nat) (hy : y < 4503599627370496)
    (hX : m * 1024 = (4503599627370496 + y) * 2048) (hlen : ∀ w : World, Calls Tryz.prog 240 #[.int .u64 m] w fun e w' => e = .returned (.int .i64 54) ∧ w' = w) (w : World) (ht : TabAt w) (h11 : 11 < w.heap.size) :
    Calls Tryz.prog 231 #[.int .u64 m, .int .i64 0, .int .u64 (sw neg)] w fun e w' => e = .returned (.tuple #[.float .f64 (wd (qw neg - 1 + 1076) y), .nilIface]) ∧ Below w.heap.size w w' := by
  have HLEN := Aside0.mk hlen
  have HT := Aside0.mk ht
  have H11 := Aside0.mk h11
  have HP := Aside0.mk (fun W => pack64_calls (qw neg) y 1076 (qw_is neg) (by decide) hy W)
  have HU := Aside0.mk (fun W b hb => uscale_calls ((4503599627370496 + y) * 4) (by omega) b W hb)
  have HR := Aside0.mk (fun W => roundX (4503599627370496 + y) (by omega) W)
  have hor := sw_or neg y hy
  have hu := Tryz.underlying188
  have hXi : (m : Int) * 1024 = (((4503599627370496 + y) * 4 * 512 : Nat) : Int) := by omega
  have hXb : (m : Int) * 1024 < 18446744073709551616 := by omega
  obtain ⟨U, hUe⟩ : ∃ U : Nat, 4503599627370496 + y = U := ⟨_, rfl⟩
  have hU1 : decide ((36028797018963966 : Int) ≤ ((U * 4 : Nat) : Int)) = false := decide_eq_false (by omega)
  have hU5 : ((U * 4 : Nat) : Int) < 36028797018963966 := by omega
  have hU2 : bits BinOp.and IntKind.u64 ((U * 4 : Nat) : Int) 1 = 0 := by rw [and1 _ (by omega) (by omega)]; omega
  have hU3 : bits BinOp.or IntKind.u64 ((U * 4 : Nat) : Int) 0 = ((U * 4 : Nat) : Int) := or0 _ (by omega) (by omega)
  have hU4 : ((U * 4 : Nat) : Int) = (U : Int) * 4 := by omega
  rw [hUe] at HU HR hor hXi
  rw [← hU4] at HR
  clear hlen ht h11 hUe hX hy hU4
  generalize ((U * 4 : Nat) : Int) = U4 at *
  generalize ((U * 4 * 512 : Nat) : Int) = U5 at *
  generalize wd (qw neg - 1 + 1076) y = RES at *
  generalize wd (qw neg) y = MW at *
  generalize (U : Int) = UI at *
  generalize sw neg = SW at *
  go_enter Tryz.func231, Tryz.ntmps231
  go_wp2_with (first | (go_at_call 240; refine (HLEN.out _).mono ?_; rintro e w1 ⟨rfl, rfl⟩) | (go_at_call 241; refine (lp0 _).mono ?_; rintro e w1 ⟨rfl, rfl⟩) | (go_at_call 242; refine (prescale_calls _ _ ⟨(blk_cell_alloc HT.out.1 _), (blk_cell_alloc HT.out.2 _)⟩ (blk_new _ _) H11.out).mono ?_; rintro e w2 ⟨rfl, hSc, hBs⟩; have HSC := Aside0.mk (And.intro hSc hBs); clear hBs; have zz : ∀ j, w2.cell? ⟨w1.heap.size, j, none⟩ = (#[.int .u64 9223372036854775808, .int .u64 0, .int .i64 8] : Array Value)[j]? := fun j => blk_cell hSc j; clear hSc) | (go_at_call 243; (try rw [hXi]); refine (HU.out _ _ HSC.out.1).mono ?_; rintro e w3 ⟨rfl, n3, rfl⟩) | (go_at_call 245; refine (unminX _).mono ?_; rintro e w4 ⟨rfl, rfl⟩) | (go_at_call 244; refine (bool2i _).mono ?_; rintro e w5 ⟨rfl, rfl⟩) | (go_at_call 247; refine (HR.out _).mono ?_; rintro e w6 ⟨rfl, rfl⟩) | (go_at_call 250; refine (HP.out _).mono ?_; rintro e w7 ⟨rfl, rfl⟩))
  go_ret2
  exact ⟨rfl, pw_below_drewN (below_low (below_alloc (Below.refl _ _) _) HSC.out.2 (Nat.le_refl _)) n3⟩
end Go.Proofs.YtabfglmpnkgecaaGreatDoor.X

/- The float nearest to a whole number, by its bits. -/
namespace Go.Proofs.YtabfglmpnkgecaaGreatDoor.X.Fl
theorem nearest_pos (m : Nat) : FloatKind.nearest .f64 (m : Int) = Ieee.Format.nearest Ieee.double false m 0 := by
  show Ieee.Format.nearest Ieee.double (decide ((m : Int) < 0)) (m : Int).natAbs 0 = _
  have : decide ((m : Int) < 0) = false := decide_eq_false (by omega)
  rw [this]; rfl
theorem nearest_negs (m : Nat) (h : 0 < m) : FloatKind.nearest .f64 (-(m : Int)) = Ieee.Format.nearest Ieee.double true m 0 := by
  show Ieee.Format.nearest Ieee.double (decide (-(m : Int) < 0)) (-(m : Int)).natAbs 0 = _
  have : decide (-(m : Int) < 0) = true := decide_eq_true (by omega)
  rw [this, Int.natAbs_neg]; rfl
def rungOf (m : Nat) : Nat :=
  if m = 0 then 0 else
  let last := max ((0 : Int) + m.log2 - 52) (Ieee.Format.leastPlace Ieee.double)
  min ((last - Ieee.Format.leastPlace Ieee.double).toNat * Ieee.Format.binade Ieee.double + Ieee.Toward.even.cut false (m <<< ((0 : Int) - last).toNat) (last - 0).toNat) (Ieee.Format.infRung Ieee.double)
theorem nearest_word (b : Bool) (m : Nat) : Ieee.Format.nearest Ieee.double b m 0 = Ieee.Format.word Ieee.double b (rungOf m) := by
  unfold Ieee.Format.nearest rungOf
  by_cases h : m = 0
  · rw [if_pos h, if_pos h]
  · rw [if_neg h, if_neg h]; rfl
theorem rung_lt (m : Nat) : rungOf m < 9223372036854775808 := by
  unfold rungOf
  split
  · decide
  · exact Nat.lt_of_le_of_lt (Nat.min_le_right _ _) (show (9218868437227405312 : Nat) < _ by decide)
theorem xor63 (r : Nat) (h : r < 9223372036854775808) : 9223372036854775808 ^^^ r = 9223372036854775808 + r := by
  have e : (9223372036854775808 : Nat) = 2 ^ 63 := rfl
  rw [e] at h ⊢
  apply Nat.eq_of_testBit_eq
  intro i
  rw [Nat.testBit_xor]
  rcases Nat.lt_trichotomy i 63 with hi | rfl | hi
  · rw [Nat.testBit_two_pow_add_gt hi, Nat.testBit_two_pow_of_ne (by omega)]
    simp
  · rw [Nat.testBit_two_pow_add_eq, Nat.testBit_two_pow_self, Nat.testBit_lt_two_pow h]
    rfl
  · have h2 : 2 ^ 63 + r < 2 ^ i := Nat.lt_of_lt_of_le (by omega) (Nat.pow_le_pow_right (n := 2) (by omega) (show 64 ≤ i by omega))
    rw [Nat.testBit_lt_two_pow h2, Nat.testBit_two_pow_of_ne (by omega), Nat.testBit_lt_two_pow (Nat.lt_of_le_of_lt (by omega) h2)]
    rfl
theorem neg_nearest (m : Nat) (h : 0 < m) : Op.negFloat .f64 (FloatKind.nearest .f64 (m : Int)) = FloatKind.nearest .f64 (-(m : Int)) := by
  rw [nearest_pos, nearest_negs m h, nearest_word, nearest_word]
  have e1 : 2 ^ (FloatKind.f64.format.exponentBits + FloatKind.f64.format.fractionBits) = 9223372036854775808 := by decide
  have e2 : Ieee.Format.signWeight Ieee.double = 9223372036854775808 := by decide
  have e3 : Ieee.Format.word Ieee.double false (rungOf m) = rungOf m := if_neg (by decide)
  have e4 : Ieee.Format.word Ieee.double true (rungOf m) = Ieee.Format.signWeight Ieee.double + rungOf m := if_pos rfl
  rw [e3, e4, e2]
  unfold Op.negFloat
  rw [e1, Nat.xor_comm, xor63 _ (rung_lt m)]
theorem log2_52 (m : Nat) (h1 : 4503599627370496 ≤ m) (h2 : m < 9007199254740992) : m.log2 = 52 := by
  have h3 : 52 ≤ m.log2 := (Nat.le_log2 (by omega)).2 (by omega)
  have h4 : m.log2 < 53 := (Nat.log2_lt (by omega)).2 (by omega)
  omega
theorem rung_52 (m : Nat) (h1 : 4503599627370496 ≤ m) (h2 : m < 9007199254740992) : rungOf m = 4836865999795912704 + m := by
  unfold rungOf
  rw [if_neg (by omega), log2_52 m h1 h2]
  show min (1074 * 4503599627370496 + Ieee.Toward.even.cut false (m <<< 0) 0) 9218868437227405312 = _
  have : Ieee.Toward.even.cut false (m <<< 0) 0 = m := by
    unfold Ieee.Toward.cut
    have e : (1 : Nat) <<< min 0 ((m <<< 0).log2 + 2) = 1 := by rw [Nat.zero_min]; rfl
    simp only [e]
    have e3 : m % 1 = 0 := Nat.mod_one m
    simp [e3]
  rw [this]
  omega
end Go.Proofs.YtabfglmpnkgecaaGreatDoor.X.Fl

/- special and atof64exact at the decimal text of a whole number. -/
namespace Go.Proofs.YtabfglmpnkgecaaGreatDoor.X
open Go.RowKit Go.Proofs.YtabfglmpnkgecaaGreatDoorW.PrintWords Go.Proofs.YtabfglmpnkgecaaGreatDoorW.PrintLast Go.Proofs.YtabfglmpnkgecaaGreatDoorW.PrintMore Go.Proofs.YtabfglmpnkgecaaGreatDoor.Q

set_option maxRecDepth 100000 in
theorem special_pos (S : ByteArray) (n : Nat) (hn : S.size = n + 1) (h : 48 ≤ bt S 0 ∧ bt S 0 ≤ 57) (w : World) :
    Calls Tryz.prog 219 #[.string S] w fun e w' => e = .returned (.tuple #[.float .f64 0, .int .i64 0, .bool false]) ∧ w' = w := by
  have e1 : (bt S 0 == 43) = false := beq_eq_false_iff_ne.2 (by omega)
  have e2 : (bt S 0 == 45) = false := beq_eq_false_iff_ne.2 (by omega)
  have e3 : (bt S 0 == 105) = false := beq_eq_false_iff_ne.2 (by omega)
  have e4 : (bt S 0 == 73) = false := beq_eq_false_iff_ne.2 (by omega)
  have e5 : (bt S 0 == 110) = false := beq_eq_false_iff_ne.2 (by omega)
  have e6 : (bt S 0 == 78) = false := beq_eq_false_iff_ne.2 (by omega)
  have hbb : ∀ i (h : i < S.size), ((S[i]'h).toNat : Int) = bt S i := fun i h => bt_at S i h
  go_enter Tryz.func219, Tryz.ntmps219
  go_wp2
  refine bodyPost_ret (v := .tuple #[.float .f64 0, .int .i64 0, .bool false]) ?_ rfl ⟨rfl, rfl⟩
  simp [results, Tryz.results219]
set_option maxRecDepth 100000 in
theorem cp0 (S : ByteArray) (n : Nat) (hn : S.size = n + 1) (h : 48 ≤ bt S 0 ∧ bt S 0 ≤ 57) (w : World) :
    Calls Tryz.prog 235 #[.string S, .string ⟨#[105, 110, 102, 105, 110, 105, 116, 121]⟩] w fun e w' => e = .returned (.int .i64 0) ∧ w' = w := by
  have e1 : ¬ (65 : Int) ≤ bt S 0 := by omega
  have e3 : ∀ hh, (bt S 0 != (((⟨#[105, 110, 102, 105, 110, 105, 116, 121]⟩ : ByteArray)[0]'hh).toNat : Int)) = true := fun _ => bne_iff_ne.2 (by show bt S 0 ≠ 105; omega)
  have hbb : ∀ i (h : i < S.size), ((S[i]'h).toNat : Int) = bt S i := fun i h => bt_at S i h
  go_enter Tryz.func235, Tryz.ntmps235
  have hn0 : (0 : Int) < (n : Int) + 1 := by omega
  go_wp2
  all_goals
    refine wp_loop_rounds 1 ?_
    rw [rounds_succ]
    go_wp2
    go_ret
    exact ⟨rfl, rfl⟩
theorem bt_tail (S : ByteArray) (D : List UInt8) (hS : S.data.toList = 45 :: D) : (S.extract 1 S.size).data.toList = D := by
  have hs : S.size = D.length + 1 := by rw [ba_size, hS]; rfl
  rw [ByteArray.data_extract, Array.toList_extract, hS, hs]
  simp
set_option maxRecDepth 100000 in
theorem special_neg (S : ByteArray) (D : List UInt8) (hS : S.data.toList = 45 :: D) (n : Nat) (hn : D.length = n + 1) (h : 48 ≤ (D.getD 0 0).toNat ∧ (D.getD 0 0).toNat ≤ 57) (w : World) :
    Calls Tryz.prog 219 #[.string S] w fun e w' => e = .returned (.tuple #[.float .f64 0, .int .i64 0, .bool false]) ∧ w' = w := by
  have hsz : S.size = n + 2 := by rw [ba_size, hS]; simp [hn]
  have h0 : bt S 0 = 45 := by have := bt_list S 0 (by omega); rw [hS] at this; exact this
  have e1 : (bt S 0 == 43) = false := beq_eq_false_iff_ne.2 (by omega)
  have e2 : (bt S 0 == 45) = true := beq_iff_eq.2 h0
  have HT := Aside0.mk (bt_tail S D hS)
  have HC : Aside0 (∀ W : World, Calls Tryz.prog 235 #[.string (S.extract 1 S.size), .string ⟨#[105, 110, 102, 105, 110, 105, 116, 121]⟩] W fun e w' => e = .returned (.int .i64 0) ∧ w' = W) := ⟨fun W => by
    have hz : (S.extract 1 S.size).size = n + 1 := by rw [ba_size, HT.out, hn]
    refine cp0 _ n hz ?_ W
    have := bt_list (S.extract 1 S.size) 0 (by omega)
    rw [HT.out] at this
    rw [show bt (S.extract 1 S.size) 0 = bt (S.extract 1 S.size) ((0 : Nat) : Int) from rfl, this]
    omega⟩
  have hbb : ∀ i (h : i < S.size), ((S[i]'h).toNat : Int) = bt S i := fun i h => bt_at S i h
  rw [hsz] at HC
  clear h0 h hS hn
  go_enter Tryz.func219, Tryz.ntmps219
  go_wp2_with (go_at_call 235; refine (HC.out _).mono ?_; rintro e w' ⟨rfl, rfl⟩)
  refine bodyPost_ret (v := .tuple #[.float .f64 0, .int .i64 0, .bool false]) ?_ rfl ⟨rfl, rfl⟩
  simp [results, Tryz.results219]
/-- What ParseFloat needs of the package-level variables. -/
def VarsW (W : World) : Prop := W.cell? ⟨6, 0, none⟩ = some (.bool true) ∧ W.cell? ⟨7, 0, none⟩ = some (.int .u64 52) ∧ TabAt W
/-- The float of a whole number with a sign. -/
def valB (neg : Bool) (m : Nat) : Nat := FloatKind.nearest .f64 (if neg = true then -(m : Int) else (m : Int))
set_option maxHeartbeats 4000000 in
set_option maxRecDepth 100000 in
theorem exact_small (neg : Bool) (m : Nat) (h0 : 0 < m) (h1 : m < 4503599627370496) (w : World) (hv : VarsW w) :
    Calls Tryz.prog 230 #[.int .u64 m, .int .i64 0, .bool neg] w fun e w' => e = .returned (.tuple #[.float .f64 (valB neg m), .bool true]) ∧ w' = w := by
  have h7 := hv.2.1
  have hu := Tryz.underlying152
  have hu36 := Tryz.underlying36
  have hcv : (convert 35 36 (.int .u64 m)).run Tryz.prog w = .ok (.float .f64 (FloatKind.nearest .f64 (m : Int))) w := run_convert_int_float w 35 36 .u64 .f64 (m : Int) (by kernel_rfl) hu36
  have hng := Fl.neg_nearest m h0
  have hsh : (m : Int) / 4503599627370496 = 0 := by omega
  obtain ⟨F, hF⟩ : ∃ F, FloatKind.nearest .f64 (m : Int) = F := ⟨_, rfl⟩
  obtain ⟨R, hR⟩ : ∃ R, valB neg m = R := ⟨_, rfl⟩
  rw [hF] at hcv hng
  rw [hR]
  cases neg
  · obtain rfl : F = R := hF.symm.trans hR
    clear hF hR hng
    go_enter Tryz.func230, Tryz.ntmps230
    go_wp2
    go_ret2
    exact ⟨rfl, rfl⟩
  · have hng2 : (Op.unary UnOp.neg (.float .f64 F)) = pure (.float .f64 R) := by
      have : Op.negFloat .f64 F = R := hng.trans hR
      rw [← this]; rfl
    clear hF hR hng
    go_enter Tryz.func230, Tryz.ntmps230
    go_wp2
    go_ret2
    exact ⟨rfl, rfl⟩
set_option maxHeartbeats 4000000 in
set_option maxRecDepth 100000 in
theorem exact_big (neg : Bool) (m : Nat) (h0 : 4503599627370496 ≤ m) (h1 : m ≤ 9007199254740992) (w : World) (hv : VarsW w) :
    Calls Tryz.prog 230 #[.int .u64 m, .int .i64 0, .bool neg] w fun e w' => e = .returned (.tuple #[.float .f64 0, .bool false]) ∧ w' = w := by
  have h7 := hv.2.1
  have hu := Tryz.underlying152
  have hsh : (((m : Int) / 4503599627370496) != 0) = true := bne_iff_ne.2 (by omega)
  go_enter Tryz.func230, Tryz.ntmps230
  go_wp2
  go_ret2
  exact ⟨rfl, rfl⟩
theorem qw_sub (neg : Bool) : qw neg - 1 = if neg = true then 2048 else 0 := by cases neg <;> rfl
theorem word_wd (neg : Bool) (E y : Nat) : Ieee.Format.word Ieee.double neg (4503599627370496 * E + y) = wd (qw neg - 1 + E) y := by
  have e2 : Ieee.Format.signWeight Ieee.double = 9223372036854775808 := by decide
  rw [qw_sub]
  cases neg
  · have e3 : Ieee.Format.word Ieee.double false (4503599627370496 * E + y) = 4503599627370496 * E + y := if_neg (by decide)
    rw [e3]
    unfold wd
    simp
  · have e4 : Ieee.Format.word Ieee.double true (4503599627370496 * E + y) = Ieee.Format.signWeight Ieee.double + (4503599627370496 * E + y) := if_pos rfl
    rw [e4, e2]
    unfold wd
    simp only [if_true]
    omega
theorem valB_word (neg : Bool) (m : Nat) (h0 : 0 < m) : valB neg m = Ieee.Format.word Ieee.double neg (Fl.rungOf m) := by
  unfold valB
  cases neg
  · simp only [Bool.false_eq_true, if_false]
    rw [Fl.nearest_pos, Fl.nearest_word]
  · simp only [if_true]
    rw [Fl.nearest_negs m h0, Fl.nearest_word]
theorem val_a (neg : Bool) (y : Nat) (hy : y < 4503599627370496) : wd (qw neg - 1 + 1075) y = valB neg (4503599627370496 + y) := by
  rw [valB_word neg _ (by omega), Fl.rung_52 _ (by omega) (by omega), ← word_wd]
  congr 1
  omega
theorem rung_53 : Fl.rungOf 9007199254740992 = 4503599627370496 * 1076 + 0 := by decide +kernel
theorem val_b (neg : Bool) : wd (qw neg - 1 + 1076) 0 = valB neg 9007199254740992 := by
  rw [valB_word neg _ (by decide), rung_53, ← word_wd]
end Go.Proofs.YtabfglmpnkgecaaGreatDoor.X

/- ParseFloat at the decimal text of a whole number of at most 2^53, with or without a minus. -/
namespace Go.Proofs.YtabfglmpnkgecaaGreatDoor.X
open Go.RowKit Go.Proofs.YtabfglmpnkgecaaGreatDoorW.PrintWords Go.Proofs.YtabfglmpnkgecaaGreatDoorW.PrintLast Go.Proofs.YtabfglmpnkgecaaGreatDoorW.PrintMore Go.Proofs.YtabfglmpnkgecaaGreatDoor.Q

/-- The text of a number with its sign. -/
def numT (neg : Bool) (m : Nat) : List UInt8 := if neg = true then 45 :: decL m else decL m
theorem numT_len (neg : Bool) (m : Nat) : (numT neg m).length = (decL m).length + (if neg = true then 1 else 0) := by cases neg <;> simp [numT]
theorem specialX (neg : Bool) (m : Nat) (h0 : 0 < m) (S : ByteArray) (hS : S.data.toList = numT neg m) (w : World) :
    Calls Tryz.prog 219 #[.string S] w fun e w' => e = .returned (.tuple #[.float .f64 0, .int .i64 0, .bool false]) ∧ w' = w := by
  obtain ⟨n, hn⟩ : ∃ n, (decL m).length = n + 1 := ⟨(decL m).length - 1, by have := decL_pos m; omega⟩
  have hd := decL_digit m ((decL m).getD 0 0) (by rw [List.getD_eq_getElem?_getD, List.getElem?_eq_getElem (decL_pos m)]; exact List.getElem_mem _)
  cases neg
  · have hS' : S.data.toList = decL m := hS
    have hz : S.size = n + 1 := by rw [ba_size, hS', hn]
    refine special_pos S n hz ?_ w
    have := bt_list S 0 (by omega)
    rw [hS'] at this
    rw [show bt S 0 = bt S ((0 : Nat) : Int) from rfl, this]
    omega
  · exact special_neg S (decL m) hS n hn hd w
theorem readX (neg : Bool) (m : Nat) (h0 : 0 < m) (h1 : m ≤ 9007199254740992) (S : ByteArray) (hS : S.data.toList = numT neg m) (w : World) :
    Calls Tryz.prog 220 #[.string S] w fun e w' => e = .returned (.tuple #[.int .u64 m, .int .i64 0, .bool neg, .bool false, .bool false, .int .i64 (S.size : Int), .bool true]) ∧ w' = w := by
  have hz : S.size = (numT neg m).length := by rw [ba_size, hS]
  rw [hz, numT_len]
  cases neg
  · exact rf_pos m h0 h1 S hS w
  · exact rf_neg m h0 h1 S hS w
def bw (b : Bool) : Int := if b = true then 1 else 0
theorem bool2b (b : Bool) (w : World) : Calls Tryz.prog 228 #[.bool b] w fun e w' => e = .returned (.int .u64 (bw b)) ∧ w' = w := by
  cases b
  · exact bool2f w
  · go_enter Tryz.func228, Tryz.ntmps228
    go_wp2
    go_ret
    exact ⟨rfl, rfl⟩
theorem bigX (neg : Bool) (m : Nat) (h0 : 4503599627370496 ≤ m) (h1 : m ≤ 9007199254740992) (w : World) (hv : VarsW w) (h11 : 11 < w.heap.size) :
    Calls Tryz.prog 231 #[.int .u64 m, .int .i64 0, .int .u64 (sw neg)] w fun e w' => e = .returned (.tuple #[.float .f64 (valB neg m), .nilIface]) ∧ Below w.heap.size w w' := by
  by_cases h : m < 9007199254740992
  · obtain ⟨y, rfl⟩ : ∃ y, m = 4503599627370496 + y := ⟨m - 4503599627370496, by omega⟩
    have := pf64_a neg (4503599627370496 + y) y (by omega) rfl (fun W => len64_a _ h0 h W) w hv.2.2 h11
    rw [val_a neg y (by omega)] at this
    exact this
  · obtain rfl : m = 9007199254740992 := by omega
    have := pf64_b neg 9007199254740992 0 (by decide) (by decide) (fun W => len64_b W) w hv.2.2 h11
    rw [val_b neg] at this
    exact this
set_option maxHeartbeats 8000000 in
set_option maxRecDepth 100000 in
theorem atof_calls (neg : Bool) (m : Nat) (h0 : 0 < m) (h1 : m ≤ 9007199254740992) (S : ByteArray) (hS : S.data.toList = numT neg m) (w : World) (hv : VarsW w) (h11 : 11 < w.heap.size) :
    Calls Tryz.prog 215 #[.string S] w fun e w' => e = .returned (.tuple #[.float .f64 (valB neg m), .int .i64 (S.size : Int), .nilIface]) ∧ Below w.heap.size w w' := by
  have HSP := Aside0.mk (fun W => specialX neg m h0 S hS W)
  have HRD := Aside0.mk (fun W => readX neg m h0 h1 S hS W)
  have HV := Aside0.mk hv
  have h6 := hv.1
  have hm0 : ((m : Int) == 0) = false := beq_eq_false_iff_ne.2 (by omega)
  have hsw : IntKind.u64.wrap (bw neg * 9223372036854775808) = sw neg := by cases neg <;> decide
  have H2 := Aside0.mk (fun W => bool2b neg W)
  have HBG := Aside0.mk (fun (hh : 4503599627370496 ≤ m) W (h1' : VarsW W) (h2' : 11 < W.heap.size) => bigX neg m hh h1 W h1' h2')
  have HEX := Aside0.mk (fun (hs : m < 4503599627370496) W (hv : VarsW W) => exact_small neg m h0 hs W hv)
  have HEB := Aside0.mk (fun (hs : 4503599627370496 ≤ m) W (hv : VarsW W) => exact_big neg m hs h1 W hv)
  have H11 := Aside0.mk h11
  generalize valB neg m = R at *
  generalize bw neg = BW at *
  generalize sw neg = SW at *
  clear hS h0 h1 hv h11
  by_cases hs : m < 4503599627370496
  · replace HEX := Aside0.mk (HEX.out hs)
    replace HEB := trivial
    clear hs
    go_enter Tryz.func215, Tryz.ntmps215
    go_wp2_with (first | (go_at_call 219; refine (HSP.out _).mono ?_; rintro e w1 ⟨rfl, rfl⟩) | (go_at_call 220; refine (HRD.out _).mono ?_; rintro e w1 ⟨rfl, rfl⟩) | (go_at_call 228; refine (H2.out _).mono ?_; rintro e w1 ⟨rfl, rfl⟩) | (go_at_call 230; refine (HEX.out _ HV.out).mono ?_; rintro e w1 ⟨rfl, rfl⟩))
    refine bodyPost_ret (v := .tuple #[.float .f64 R, .int .i64 (S.size : Int), .nilIface]) ?_ rfl ⟨rfl, Below.refl _ _⟩
    simp [results, Tryz.results215]
  · replace HEB := Aside0.mk (HEB.out (by omega))
    replace HBG := Aside0.mk (HBG.out (by omega))
    replace HEX := trivial
    clear hs
    go_enter Tryz.func215, Tryz.ntmps215
    go_wp2_with (first | (go_at_call 219; refine (HSP.out _).mono ?_; rintro e w1 ⟨rfl, rfl⟩) | (go_at_call 220; refine (HRD.out _).mono ?_; rintro e w1 ⟨rfl, rfl⟩) | (go_at_call 228; refine (H2.out _).mono ?_; rintro e w1 ⟨rfl, rfl⟩) | (go_at_call 230; refine (HEB.out _ HV.out).mono ?_; rintro e w1 ⟨rfl, rfl⟩) | (go_at_call 231; refine (HBG.out _ HV.out H11.out).mono ?_; rintro e w2 ⟨rfl, hB⟩; have HB := Aside0.mk hB; clear hB))
    refine bodyPost_ret (v := .tuple #[.float .f64 R, .int .i64 (S.size : Int), .nilIface]) ?_ rfl ⟨rfl, HB.out⟩
    simp [results, Tryz.results215]
end Go.Proofs.YtabfglmpnkgecaaGreatDoor.X

/- strconv.ParseFloat at the text of a whole number between -2^53 and 2^53. -/
namespace Go.Proofs.YtabfglmpnkgecaaGreatDoor.X
open Go.RowKit Go.Proofs.YtabfglmpnkgecaaGreatDoorW.PrintWords Go.Proofs.YtabfglmpnkgecaaGreatDoorW.PrintLast Go.Proofs.YtabfglmpnkgecaaGreatDoorW.PrintMore Go.Proofs.YtabfglmpnkgecaaGreatDoor.Q

set_option maxHeartbeats 8000000 in
set_option maxRecDepth 100000 in
theorem rf_zero (w : World) : Calls Tryz.prog 220 #[.string ⟨#[48]⟩] w fun e w' => e = .returned (.tuple #[.int .u64 0, .int .i64 0, .bool false, .bool false, .bool false, .int .i64 1, .bool true]) ∧ w' = w := by
  go_enter Tryz.func220, Tryz.ntmps220
  go_wp2
  go_step3
  go_wp2
  go_step3
  go_wp2
  refine wp_loop_rounds 2 ?_
  rw [rounds_succ]
  go_wp2
  rw [rounds_succ]
  go_wp2
  rw [Exit.noGoto_ret]
  refine bodyPost_ret (v := .tuple #[.int .u64 0, .int .i64 0, .bool false, .bool false, .bool false, .int .i64 1, .bool true]) ?_ rfl ⟨rfl, rfl⟩
  simp [results, Tryz.results220]
  try decide
set_option maxHeartbeats 8000000 in
set_option maxRecDepth 100000 in
theorem atof_zero (w : World) (hv : VarsW w) : Calls Tryz.prog 215 #[.string ⟨#[48]⟩] w fun e w' => e = .returned (.tuple #[.float .f64 0, .int .i64 1, .nilIface]) ∧ w' = w := by
  have h6 := hv.1
  have hfr : ∀ W, (callFunc 229 #[.int .u64 0]).run Tryz.prog W = .ok (.value (.float .f64 0)) W := frombits_run 0
  have hor : bits BinOp.or IntKind.u64 0 0 = 0 := by decide
  go_enter Tryz.func215, Tryz.ntmps215
  go_wp2_with (first | (go_at_call 219; refine (special_pos ⟨#[48]⟩ 0 rfl (by decide) _).mono ?_; rintro e w1 ⟨rfl, rfl⟩) | (go_at_call 220; refine (rf_zero _).mono ?_; rintro e w1 ⟨rfl, rfl⟩) | (go_at_call 228; refine (bool2f _).mono ?_; rintro e w1 ⟨rfl, rfl⟩))
  refine bodyPost_ret (v := .tuple #[.float .f64 0, .int .i64 1, .nilIface]) ?_ rfl ⟨rfl, rfl⟩
  simp [results, Tryz.results215]
theorem nearest_zero : FloatKind.nearest .f64 0 = 0 := by decide +kernel
theorem atofX (v : Int) (h1 : -9007199254740992 ≤ v) (h2 : v ≤ 9007199254740992) (S : ByteArray) (hS : S.data.toList = sgL v) (w : World) (hv : VarsW w) (h11 : 11 < w.heap.size) :
    Calls Tryz.prog 215 #[.string S] w fun e w' => e = .returned (.tuple #[.float .f64 (floatOfInt .f64 v), .int .i64 (S.size : Int), .nilIface]) ∧ Below w.heap.size w w' := by
  unfold sgL at hS
  by_cases hn : v < 0
  · rw [if_pos hn] at hS
    have h := atof_calls true (-v).toNat (by omega) (by omega) S hS w hv h11
    have e : valB true (-v).toNat = floatOfInt .f64 v := by
      unfold valB floatOfInt
      rw [if_pos rfl]
      congr 1
      omega
    rw [e] at h
    exact h
  · rw [if_neg hn] at hS
    by_cases hz : v = 0
    · subst hz
      have e : S = ⟨#[48]⟩ := ba_ext (by rw [hS]; exact (decL_small (by decide : (0 : Nat) < 10)))
      subst e
      refine (atof_zero w hv).mono ?_
      rintro e w' ⟨rfl, rfl⟩
      refine ⟨?_, Below.refl _ _⟩
      rw [show floatOfInt .f64 0 = 0 from nearest_zero]
      rfl
    · have h := atof_calls false v.toNat (by omega) (by omega) S hS w hv h11
      have e : valB false v.toNat = floatOfInt .f64 v := by
        unfold valB floatOfInt
        rw [if_neg (by decide)]
        congr 1
        omega
      rw [e] at h
      exact h
set_option maxHeartbeats 8000000 in
set_option maxRecDepth 100000 in
theorem parseFloat_calls (v : Int) (h1 : -9007199254740992 ≤ v) (h2 : v ≤ 9007199254740992) (S : ByteArray) (hS : S.data.toList = sgL v) (w : World) (hv : VarsW w) (h11 : 11 < w.heap.size) :
    Calls Tryz.prog 53 #[.string S, .int .i64 64] w fun e w' => e = .returned (.tuple #[.float .f64 (floatOfInt .f64 v), .nilIface]) ∧ Below w.heap.size w w' := by
  have H := Aside0.mk (atofX v h1 h2 S hS w hv h11)
  generalize floatOfInt .f64 v = R at *
  clear h1 h2 hS hv h11
  have H2 : Aside0 (Calls Tryz.prog 207 #[.string S, .int .i64 64] w fun e w' => e = .returned (.tuple #[.float .f64 R, .int .i64 (S.size : Int), .nilIface]) ∧ Below w.heap.size w w') := ⟨by
    go_enter Tryz.func207, Tryz.ntmps207
    go_wp2_with (go_at_call 215; refine H.out.mono ?_; rintro e w1 ⟨rfl, hB⟩; have HB := Aside0.mk hB; clear hB)
    refine bodyPost_ret (v := .tuple #[.float .f64 R, .int .i64 (S.size : Int), .nilIface]) ?_ rfl ⟨rfl, HB.out⟩
    simp [results, Tryz.results207]⟩
  have H3 : Aside0 (Calls Tryz.prog 203 #[.string S, .int .i64 64] w fun e w' => e = .returned (.tuple #[.float .f64 R, .nilIface]) ∧ Below w.heap.size w w') := ⟨by
    go_enter Tryz.func203, Tryz.ntmps203
    go_wp2_with (go_at_call 207; refine H2.out.mono ?_; rintro e w1 ⟨rfl, hB⟩; have HB := Aside0.mk hB; clear hB)
    go_ret2
    exact ⟨rfl, HB.out⟩⟩
  go_enter Tryz.func53, Tryz.ntmps53
  go_wp2_with (go_at_call 203; refine H3.out.mono ?_; rintro e w1 ⟨rfl, hB⟩; have HB := Aside0.mk hB; clear hB)
  go_ret2
  exact ⟨rfl, HB.out⟩
end Go.Proofs.YtabfglmpnkgecaaGreatDoor.X

/- Single operations of parseProcNetstat; its state; the switch over keys by law. -/
namespace Go.Proofs.YtabfglmpnkgecaaGreatDoor.X
open Go.RowKit Go.Proofs.YtabfglmpnkgecaaGreatDoorW.PrintWords Go.Proofs.YtabfglmpnkgecaaGreatDoorW.PrintLast Go.Proofs.YtabfglmpnkgecaaGreatDoorW.PrintMore Go.Proofs.YtabfglmpnkgecaaGreatDoor.Q
attribute [local go_sem] run_store_float

theorem o_nil (a : Act) (W : World) (pos : String) (s : Nat) (v : Value) (ty : TypeId) (af : List Edge) :
  (execOp a.eval (mkO pos (some s) (.assign (.const v)) ty af)).run Tryz.prog W = .ok (.value v) W := by
  simp only [execOp, mkO, Act.eval]
  go_simp
theorem o_assign (a : Act) (W : World) (pos : String) (s t ty : Nat) (v : Value) (af : List Edge) (h : a.eval (.tmp t) = v) :
  (execOp a.eval (mkO pos (some s) (.assign (.tmp t)) ty af)).run Tryz.prog W = .ok (.value v) W := by
  simp only [execOp, mkO, h]
  go_simp
theorem o_allocZ (a : Act) (W : World) (pos : String) (s : Nat) (T : TypeId) (zs : Array Value) (af : List Edge) (hi : (Tryz.prog.info? T).bind (·.zero) = some (.agg zs)) :
  (execOp a.eval (mkO pos (some s) (.alloc T) 0 af)).run Tryz.prog W = .ok (.value (.pointer (some ⟨W.heap.size, 0, none⟩))) (W.alloc (.cells zs T)) := by
  have hz : (zeroValue T).run Tryz.prog W = .ok (.agg zs) W := by
    cases hq : Tryz.prog.info? T with
    | none => simp [hq] at hi
    | some i =>
      have h1 : i.zero = some (.agg zs) := by simpa [hq] using hi
      simp [zeroValue, typeInfo, hq, h1, Sem.run_bind]
  simp only [execOp, mkO]
  go_simp
theorem o_allocF (a : Act) (W : World) (pos : String) (s : Nat) (af : List Edge) :
  (execOp a.eval (mkO pos (some s) (.alloc 36) 0 af)).run Tryz.prog W = .ok (.value (.pointer (some ⟨W.heap.size, 0, none⟩))) (W.alloc (.cells #[.float .f64 0] 36)) := by
  have hu := Tryz.underlying36
  simp only [execOp, mkO]
  go_simp
theorem o_storeF (a : Act) (g : Nat) (W : World) (pos : String) (p t x y : Nat) (af : List Edge) (hp : a.eval (.tmp p) = .pointer (some ⟨g, 0, none⟩)) (ht : a.eval (.tmp t) = .float .f64 x) (h : W.heap[g]? = some (.cells #[.float .f64 y] 36 (0, 0))) :
  (execOp a.eval (mkO pos none (.store 36 (.tmp p) (.tmp t)) 0 af)).run Tryz.prog W = .ok .skip (W.setCell ⟨g, 0, none⟩ (.float .f64 x)) := by
  have hu1 := Tryz.underlying36
  have hc : W.cell? ⟨g, 0, none⟩ = some (.float .f64 y) := (blk_cell h 0).trans rfl
  have hf : W.frozen? ⟨g, 0, none⟩ = false := blk_frozen h 0
  simp only [execOp, mkO, hp, ht]
  go_simp
theorem o_len (a : Act) (W : World) (pos : String) (s t : Nat) (A : Option Addr) (n c : Nat) (af : List Edge) (h : a.eval (.tmp t) = .slice A n c) :
  (execOp a.eval (mkO pos (some s) (.call { callee := .builtin .len, args := #[.tmp t], argTypes := #[29] }) 3 af)).run Tryz.prog W = .ok (.value (.int .i64 n)) W := by
  have h' : a.tmps[t]?.getD undef = .slice A n c := by simpa [Act.eval] using h
  have hu := Tryz.underlying29
  simp only [execOp, mkO]
  go_simp
theorem o_same (a : Act) (W : World) (pos : String) (s t u m : Nat) (af : List Edge) (h : a.eval (.tmp t) = .int .i64 m) (h2 : a.eval (.tmp u) = .int .i64 m) :
  (execOp a.eval (mkO pos (some s) (.binOp .neq 3 (.tmp t) (.tmp u) 3) 4 af)).run Tryz.prog W = .ok (.value (.bool false)) W := by
  have hu := Tryz.underlying3
  have h' : a.tmps[t]?.getD undef = .int .i64 m := by simpa [Act.eval] using h
  have h2' : a.tmps[u]?.getD undef = .int .i64 m := by simpa [Act.eval] using h2
  simp only [execOp, mkO]
  go_simp
  try simp
theorem o_lss (a : Act) (W : World) (pos : String) (s t u m n : Nat) (af : List Edge) (h : a.eval (.tmp t) = .int .i64 m) (h2 : a.eval (.tmp u) = .int .i64 n) :
  (execOp a.eval (mkO pos (some s) (.binOp .lss 3 (.tmp t) (.tmp u) 3) 4 af)).run Tryz.prog W = .ok (.value (.bool (decide (m < n)))) W := by
  have hu := Tryz.underlying3
  have h' : a.tmps[t]?.getD undef = .int .i64 m := by simpa [Act.eval] using h
  have h2' : a.tmps[u]?.getD undef = .int .i64 n := by simpa [Act.eval] using h2
  simp only [execOp, mkO]
  go_simp
  try simp
theorem o_add1 (a : Act) (W : World) (pos : String) (s t m : Nat) (af : List Edge) (h : a.eval (.tmp t) = .int .i64 m) (hm : m ≤ 1000000) :
  (execOp a.eval (mkO pos (some s) (.binOp .add 3 (.tmp t) (.const (.int .i64 1)) 3) 3 af)).run Tryz.prog W = .ok (.value (.int .i64 ((m + 1 : Nat) : Int))) W := by
  have hu := Tryz.underlying3
  have h' : a.tmps[t]?.getD undef = .int .i64 m := by simpa [Act.eval] using h
  have e : wrap64 ((m : Int) + 1) = ((m + 1 : Nat) : Int) := by unfold wrap64; omega
  simp only [execOp, mkO]
  go_simp
  rw [IntKind.wrap_i64]
  omega
theorem o_extract (a : Act) (W : World) (pos : String) (s t i ty : Nat) (vs : Array Value) (v : Value) (af : List Edge) (h : a.eval (.tmp t) = .tuple vs) (hv : vs[i]? = some v) :
  (execOp a.eval (mkO pos (some s) (.extract (.tmp t) i) ty af)).run Tryz.prog W = .ok (.value v) W := by
  simp only [execOp, mkO, h]
  go_simp
theorem o_nonil (a : Act) (W : World) (pos : String) (s t : Nat) (af : List Edge) (h : a.eval (.tmp t) = .nilIface) :
  (execOp a.eval (mkO pos (some s) (.binOp .neq 78 (.tmp t) (.const .nilIface) 78) 4 af)).run Tryz.prog W = .ok (.value (.bool false)) W := by
  have hu := Tryz.underlying78
  have h' : a.tmps[t]?.getD undef = .nilIface := by simpa [Act.eval] using h
  simp only [execOp, mkO]
  go_simp
theorem o_eqs (a : Act) (W : World) (pos : String) (s t : Nat) (x y : ByteArray) (af : List Edge) (h : a.eval (.tmp t) = .string x) :
  (execOp a.eval (mkO pos (some s) (.binOp .eql 9 (.tmp t) (.const (.string y)) 9) 4 af)).run Tryz.prog W = .ok (.value (.bool (x.toList == y.toList))) W := by
  have hu := Tryz.underlying9
  have h' : a.tmps[t]?.getD undef = .string x := by simpa [Act.eval] using h
  simp only [execOp, mkO]
  go_simp
theorem o_index (a : Act) (W : World) (pos : String) (s t u : Nat) (ad : Addr) (n c i : Nat) (af : List Edge) (h : a.eval (.tmp t) = .slice (some ad) n c) (h2 : a.eval (.tmp u) = .int .i64 i) (hi : i < n) :
  (execOp a.eval (mkO pos (some s) (.indexAddr 29 (.tmp t) (.tmp u)) 0 af)).run Tryz.prog W = .ok (.value (.pointer (some (ad.add i)))) W := by
  have h1 := Tryz.underlying29
  have i1 : (Tryz.prog.info? 9).map (·.size) = some 1 := by kernel_rfl
  have h' : a.tmps[t]?.getD undef = .slice (some ad) n c := by simpa [Act.eval] using h
  have h2' : a.tmps[u]?.getD undef = .int .i64 i := by simpa [Act.eval] using h2
  have hi2 : (i : Int) < (n : Int) := by omega
  simp only [execOp, mkO]
  go_simp
theorem o_index0 (a : Act) (W : World) (pos : String) (s t : Nat) (ad : Addr) (n c : Nat) (af : List Edge) (h : a.eval (.tmp t) = .slice (some ad) n c) (hi : 0 < n) :
  (execOp a.eval (mkO pos (some s) (.indexAddr 29 (.tmp t) (.const (.int .i64 0))) 0 af)).run Tryz.prog W = .ok (.value (.pointer (some (ad.add 0)))) W := by
  have h1 := Tryz.underlying29
  have i1 : (Tryz.prog.info? 9).map (·.size) = some 1 := by kernel_rfl
  have h' : a.tmps[t]?.getD undef = .slice (some ad) n c := by simpa [Act.eval] using h
  have hi2 : (0 : Int) < (n : Int) := by omega
  simp only [execOp, mkO]
  go_simp
theorem o_load9 (a : Act) (W : World) (pos : String) (s t : Nat) (ad : Addr) (S : ByteArray) (af : List Edge) (h : a.eval (.tmp t) = .pointer (some ad)) (hc : W.cell? ad = some (.string S)) :
  (execOp a.eval (mkO pos (some s) (.load 9 (.tmp t)) 9 af)).run Tryz.prog W = .ok (.value (.string S)) W := by
  have hu := Tryz.underlying9
  simp only [execOp, mkO, h]
  go_simp
theorem o_addrB (a : Act) (b o : Nat) (W : World) (pos : String) (s t j off n : Nat) (T : TypeId) (af : List Edge) (h5 : a.eval (.tmp t) = .pointer (some ⟨b, o, none⟩)) (fs : Array Field) (hu : Tryz.prog.underlying T = some (.struct fs)) (f : Field) (hj : fs[j]? = some f) (ho : f.offset = off) (hi : (Tryz.prog.info? f.type).map (·.size) = some (n + 1)) :
  (execOp a.eval (mkO pos (some s) (.fieldAddr T (.tmp t) j) 0 af)).run Tryz.prog W = .ok (.value (.pointer (some ⟨b, o + off, none⟩))) W := by
  cases hq : Tryz.prog.info? f.type with
  | none => simp [hq] at hi
  | some i =>
    have hs : i.size = n + 1 := by simpa [hq] using hi
    simp only [execOp, mkO, h5]
    go_simp
    rw [run_underlying hu]
    simp only [Result.andThen, hj, ho]
    simp [sizeOf, typeInfo, hq, hs, Sem.run_bind]
theorem o_storeP (a : Act) (b o : Nat) (W : World) (pos : String) (p t : Nat) (pv : Option Addr) (af : List Edge) (hp : a.eval (.tmp p) = .pointer (some ⟨b, o, none⟩)) (ht : a.eval (.tmp t) = .pointer pv) (u : Value) (hc : W.cell? ⟨b, o, none⟩ = some u) (hf : W.frozen? ⟨b, o, none⟩ = false) :
  (execOp a.eval (mkO pos none (.store 52 (.tmp p) (.tmp t)) 0 af)).run Tryz.prog W = .ok .skip (W.setCell ⟨b, o, none⟩ (.pointer pv)) := by
  have hu1 := Tryz.underlying52
  simp only [execOp, mkO, hp, ht]
  go_simp
end Go.Proofs.YtabfglmpnkgecaaGreatDoor.X

/- parseProcNetstat's state; the switch over keys by law. -/
namespace Go.Proofs.YtabfglmpnkgecaaGreatDoor.X
open Go.RowKit Go.Proofs.YtabfglmpnkgecaaGreatDoorW.PrintWords Go.Proofs.YtabfglmpnkgecaaGreatDoorW.PrintLast Go.Proofs.YtabfglmpnkgecaaGreatDoorW.PrintMore Go.Proofs.YtabfglmpnkgecaaGreatDoor.Q

/-- An address of a float64, or none. -/
def PtrAt (W : World) (b : Nat) (v : Value) (m : Option Nat) : Prop :=
  (v = .pointer none ∧ m = none) ∨ ∃ g x, v = .pointer (some ⟨g, 0, none⟩) ∧ m = some x ∧ b < g ∧ W.heap[g]? = some (.cells #[.float .f64 x] 36 (0, 0))
/-- The cells of a ProcNetstat whose fields hold M. -/
def CellsOk (W : World) (b : Nat) (M : Nat → Option Nat) (cs : Array Value) : Prop :=
  cs.size = 142 ∧ cs[0]? = some (.int .i64 0) ∧ ∀ j, j < 141 → ∃ v, cs[j + 1]? = some v ∧ PtrAt W b v (M j)
/-- Block b holds a ProcNetstat whose fields hold M. -/
def StP (b : Nat) (M : Nat → Option Nat) (W : World) : Prop := ∃ cs, W.heap[b]? = some (.cells cs 58 (0, 0)) ∧ CellsOk W b M cs
def setM (M : Nat → Option Nat) (i x : Nat) : Nat → Option Nat := fun j => if j = i then some x else M j
theorem PtrAt.step {W W' : World} {b : Nat} {v : Value} {m : Option Nat} (h : PtrAt W b v m) (hW : ∀ k, b < k → k < W.heap.size → W'.heap[k]? = W.heap[k]?) : PtrAt W' b v m := by
  rcases h with h | ⟨g, x, h1, h2, h3, h4⟩
  · exact .inl h
  · exact .inr ⟨g, x, h1, h2, h3, (hW g h3 (blk_lt h4)).trans h4⟩
theorem StP.step {W W' : World} {b : Nat} {M : Nat → Option Nat} (h : StP b M W) (hW : ∀ k, b ≤ k → k < W.heap.size → W'.heap[k]? = W.heap[k]?) : StP b M W' := by
  obtain ⟨cs, h1, h2, h3, h4⟩ := h
  refine ⟨cs, (hW b (Nat.le_refl _) (blk_lt h1)).trans h1, h2, h3, fun j hj => ?_⟩
  obtain ⟨v, hv, hp⟩ := h4 j hj
  exact ⟨v, hv, hp.step (fun k hk hk2 => hW k (by omega) hk2)⟩
theorem StP.below {W W' : World} {b : Nat} {M : Nat → Option Nat} (h : StP b M W) (hb : Below W.heap.size W W') : StP b M W' := h.step (fun k _ hk => hb.block k hk)
theorem StP.just {W W' : World} {b c : Nat} {M : Nat → Option Nat} (h : StP b M W) (hb : Just c W W') (hc : c < b) : StP b M W' := h.step (fun k hk _ => hb.2 k (by omega))
theorem StP.put {W : World} {b : Nat} {M : Nat → Option Nat} (h : StP b M W) (i g x : Nat) (hi : i < 141) (hg : b < g) (hx : W.heap[g]? = some (.cells #[.float .f64 x] 36 (0, 0))) :
    StP b (setM M i x) (W.setCell ⟨b, i + 1, none⟩ (.pointer (some ⟨g, 0, none⟩))) := by
  obtain ⟨cs, h1, h2, h3, h4⟩ := h
  have hfar : ∀ k, b < k → (W.setCell ⟨b, i + 1, none⟩ (.pointer (some ⟨g, 0, none⟩))).heap[k]? = W.heap[k]? := fun k hk => Below.heap_setCell _ _ _ _ (by show k ≠ b; omega)
  refine ⟨cs.setIfInBounds (i + 1) (.pointer (some ⟨g, 0, none⟩)), blk_put h1 (i + 1) _ rfl, by simp [h2], by rw [Array.getElem?_setIfInBounds_ne (by omega)]; exact h3, fun j hj => ?_⟩
  by_cases e : j = i
  · subst e
    refine ⟨_, Array.getElem?_setIfInBounds_self_of_lt (by omega), .inr ⟨g, x, rfl, by simp [setM], hg, (hfar g hg).trans hx⟩⟩
  · obtain ⟨v, hv, hp⟩ := h4 j hj
    refine ⟨v, by rw [Array.getElem?_setIfInBounds_ne (by omega)]; exact hv, ?_⟩
    rw [show setM M i x j = M j by simp [setM, e]]
    exact hp.step (fun k hk _ => hfar k hk)
/-- Field j of a record's type lies at off and holds an address. -/
def FieldAt (T j off : Nat) : Prop := ∃ fs f n, Tryz.prog.underlying T = some (.struct fs) ∧ fs[j]? = some f ∧ f.offset = off ∧ (Tryz.prog.info? f.type).map (·.size) = some (n + 1)
set_option maxRecDepth 100000 in
set_option maxHeartbeats 1000000 in
theorem arms_wp (k fld FT off : Nat) (hfld : FieldAt 58 fld off) (b : Nat) (pv : Option Addr) (K : ByteArray) (x : Arm) (u : Value) (hx : FieldAt FT x.j x.j) (W : World) (hc : W.cell? ⟨b, off + x.j, none⟩ = some u) (hf : W.frozen? ⟨b, off + x.j, none⟩ = false) (Q : Exit → Act → World → Prop) :
    ∀ (l : List Arm) (r s : Nat) (a : Act), 13 < s → k < s → s + 4 * l.length ≤ a.tmps.size → a.eval (.tmp 7) = .pointer (some ⟨b, 0, none⟩) → a.eval (.tmp 12) = .pointer pv → a.eval (.tmp k) = .string K →
      l.find? (fun y => K.toList == y.key.toList) = some x →
      (∀ a' : Act, a'.tmps.size = a.tmps.size → a'.defers = a.defers → (∀ t, t < s → a'.eval (.tmp t) = a.eval (.tmp t)) → Q .normal a' (W.setCell ⟨b, off + x.j, none⟩ (.pointer pv))) →
      (armsCode k fld FT l r s).wp Tryz.prog Q a W
  | [], r, s, a, _, _, _, _, _, _, h, _ => by simp at h
  | y :: l, r, s, a, hs13, hks, hsz, h7, h12, hk, hfind, hQ => by
    simp only [List.length_cons] at hsz
    unfold armsCode
    refine wp_seq (wp_region_lit ?_)
    refine Kd.event_run rfl (o_eqs _ _ _ _ _ K _ _ hk) ?_
    refine Kd.event_run rfl (o_assign _ _ _ _ _ _ (.bool (K.toList == y.key.toList)) _ (by simp only [mkO]; rw [ev_same (by omega)])) ?_
    refine wpList_nil ?_
    have hs : ((a.put (some (s + 1)) (.bool (K.toList == y.key.toList))).put (some s) (.bool (K.toList == y.key.toList))).eval (.tmp s) = .bool (K.toList == y.key.toList) := ev_same (by simp only [size_put]; omega)
    have ht : ∀ t, t < s → ((a.put (some (s + 1)) (.bool (K.toList == y.key.toList))).put (some s) (.bool (K.toList == y.key.toList))).eval (.tmp t) = a.eval (.tmp t) := fun t h => by
      rw [ev_other (by omega), ev_other (by omega)]
    have hz : ((a.put (some (s + 1)) (.bool (K.toList == y.key.toList))).put (some s) (.bool (K.toList == y.key.toList))).tmps.size = a.tmps.size := by simp only [size_put]
    have hd : ((a.put (some (s + 1)) (.bool (K.toList == y.key.toList))).put (some s) (.bool (K.toList == y.key.toList))).defers = a.defers := by simp only [defers_put]
    show (Code.cond _ _ _).wp Tryz.prog Q ((a.put (some (s + 1)) (.bool (K.toList == y.key.toList))).put (some s) (.bool (K.toList == y.key.toList))) W
    generalize ((a.put (some (s + 1)) (.bool (K.toList == y.key.toList))).put (some s) (.bool (K.toList == y.key.toList))) = a1 at *
    cases hb : (K.toList == y.key.toList)
    · rw [hb] at hs
      refine wp_cond_false hs ?_
      rw [List.find?_cons_of_neg (by rw [hb]; decide)] at hfind
      refine arms_wp k fld FT off hfld b pv K x u hx W hc hf Q l (r + 2) (s + 4) a1 (by omega) (by omega) (by omega) ((ht 7 (by omega)).trans h7) ((ht 12 (by omega)).trans h12) ((ht k hks).trans hk) hfind ?_
      intro a' q1 q2 q3
      exact hQ a' (q1.trans hz) (q2.trans hd) (fun t h => (q3 t (by omega)).trans (ht t h))
    · rw [hb] at hs
      refine wp_cond_true hs ?_
      simp only [List.find?_cons, hb] at hfind
      obtain rfl : y = x := Option.some.inj hfind
      obtain ⟨fs, f, n, g1, g2, g3, g4⟩ := hfld
      obtain ⟨fs', f', n', g1', g2', g3', g4'⟩ := hx
      refine wp_region_lit ?_
      refine Kd.event_run rfl (o_addrB _ b 0 _ _ _ _ _ off n _ _ ((ht 7 (by omega)).trans h7) fs g1 f g2 g3 g4) ?_
      refine Kd.event_run rfl (o_addrB _ b (0 + off) _ _ _ _ _ y.j n' _ _ (by simp only [mkO]; rw [ev_same (by omega)]) fs' g1' f' g2' g3' g4') ?_
      refine event_skip rfl rfl (o_storeP _ b (0 + off + y.j) _ _ _ _ pv _ (by simp only [mkO]; rw [ev_same (by simp only [size_put]; omega)]) (by simp only [mkO]; rw [ev_other (by omega), ev_other (by omega)]; exact (ht 12 (by omega)).trans h12) u (by rw [Nat.zero_add]; exact hc) (by rw [Nat.zero_add]; exact hf)) ?_
      refine wpList_nil ?_
      rw [Nat.zero_add]
      refine hQ _ ?_ ?_ ?_
      · simp only [mkO, size_put]; exact hz
      · simp only [mkO, defers_put]; exact hd
      · intro t h
        simp only [mkO]
        rw [ev_other (by omega), ev_other (by omega)]
        exact ht t h
end Go.Proofs.YtabfglmpnkgecaaGreatDoor.X
