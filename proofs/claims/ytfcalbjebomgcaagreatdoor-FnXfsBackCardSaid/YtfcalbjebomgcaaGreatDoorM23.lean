/- readFloat and special at the three texts of lives. (Written by a program of this claim.) -/
import Derived.Test.YtfcalbjebomgcaaGreatDoorM02
import Derived.LoopN
import Derived.WalkMore
import Derived.Laws.Cover2
import Derived.Laws.FloatArith
set_option linter.unusedVariables false
set_option linter.unusedSimpArgs false
namespace Go.Proofs.YtfcalbjebomgcaaGreatDoor.X
open Go.RowKit Go.Proofs.YtfcalbjebomgcaaGreatDoorW.PrintWords Go.Proofs.YtfcalbjebomgcaaGreatDoorW.PrintLast Go.Proofs.YtfcalbjebomgcaaGreatDoorW.PrintMore Go.Proofs.YtfcalbjebomgcaaGreatDoor.Q
set_option maxHeartbeats 8000000 in
set_option maxRecDepth 100000 in
theorem rf05 (w : World) : Calls Tryz.prog 147 #[.string ⟨#[48, 46, 53]⟩] w fun e w' => e = .returned (.tuple #[.int .u64 5, .int .i64 (-1), .bool false, .bool false, .bool false, .int .i64 3, .bool true]) ∧ w' = w := by
  go_enter Tryz.func147, Tryz.ntmps147
  go_wp2
  go_step3
  go_wp2
  go_step3
  go_wp2
  refine wp_loop_rounds 4 ?_
  rw [rounds_succ]
  go_wp2
  rw [rounds_succ]
  go_wp2
  rw [rounds_succ]
  go_wp2
  rw [rounds_succ]
  go_wp2
  rw [Exit.noGoto_ret]
  refine bodyPost_ret (v := .tuple #[.int .u64 5, .int .i64 (-1), .bool false, .bool false, .bool false, .int .i64 3, .bool true]) ?_ rfl ⟨rfl, rfl⟩
  simp [results, Tryz.results147]
  try decide
theorem sp05 (w : World) : Calls Tryz.prog 146 #[.string ⟨#[48, 46, 53]⟩] w fun e w' => e = .returned (.tuple #[.float .f64 0, .int .i64 0, .bool false]) ∧ w' = w := by
  go_enter Tryz.func146, Tryz.ntmps146
  go_wp2
  refine bodyPost_ret (v := .tuple #[.float .f64 0, .int .i64 0, .bool false]) ?_ rfl ⟨rfl, rfl⟩
  simp [results, Tryz.results146]
set_option maxHeartbeats 8000000 in
set_option maxRecDepth 100000 in
theorem rf025 (w : World) : Calls Tryz.prog 147 #[.string ⟨#[48, 46, 50, 53]⟩] w fun e w' => e = .returned (.tuple #[.int .u64 25, .int .i64 (-2), .bool false, .bool false, .bool false, .int .i64 4, .bool true]) ∧ w' = w := by
  go_enter Tryz.func147, Tryz.ntmps147
  go_wp2
  go_step3
  go_wp2
  go_step3
  go_wp2
  refine wp_loop_rounds 5 ?_
  rw [rounds_succ]
  go_wp2
  rw [rounds_succ]
  go_wp2
  rw [rounds_succ]
  go_wp2
  rw [rounds_succ]
  go_wp2
  rw [rounds_succ]
  go_wp2
  rw [Exit.noGoto_ret]
  refine bodyPost_ret (v := .tuple #[.int .u64 25, .int .i64 (-2), .bool false, .bool false, .bool false, .int .i64 4, .bool true]) ?_ rfl ⟨rfl, rfl⟩
  simp [results, Tryz.results147]
  try decide
theorem sp025 (w : World) : Calls Tryz.prog 146 #[.string ⟨#[48, 46, 50, 53]⟩] w fun e w' => e = .returned (.tuple #[.float .f64 0, .int .i64 0, .bool false]) ∧ w' = w := by
  go_enter Tryz.func146, Tryz.ntmps146
  go_wp2
  refine bodyPost_ret (v := .tuple #[.float .f64 0, .int .i64 0, .bool false]) ?_ rfl ⟨rfl, rfl⟩
  simp [results, Tryz.results146]
set_option maxHeartbeats 8000000 in
set_option maxRecDepth 100000 in
theorem rf075 (w : World) : Calls Tryz.prog 147 #[.string ⟨#[48, 46, 55, 53]⟩] w fun e w' => e = .returned (.tuple #[.int .u64 75, .int .i64 (-2), .bool false, .bool false, .bool false, .int .i64 4, .bool true]) ∧ w' = w := by
  go_enter Tryz.func147, Tryz.ntmps147
  go_wp2
  go_step3
  go_wp2
  go_step3
  go_wp2
  refine wp_loop_rounds 5 ?_
  rw [rounds_succ]
  go_wp2
  rw [rounds_succ]
  go_wp2
  rw [rounds_succ]
  go_wp2
  rw [rounds_succ]
  go_wp2
  rw [rounds_succ]
  go_wp2
  rw [Exit.noGoto_ret]
  refine bodyPost_ret (v := .tuple #[.int .u64 75, .int .i64 (-2), .bool false, .bool false, .bool false, .int .i64 4, .bool true]) ?_ rfl ⟨rfl, rfl⟩
  simp [results, Tryz.results147]
  try decide
theorem sp075 (w : World) : Calls Tryz.prog 146 #[.string ⟨#[48, 46, 55, 53]⟩] w fun e w' => e = .returned (.tuple #[.float .f64 0, .int .i64 0, .bool false]) ∧ w' = w := by
  go_enter Tryz.func146, Tryz.ntmps146
  go_wp2
  refine bodyPost_ret (v := .tuple #[.float .f64 0, .int .i64 0, .bool false]) ?_ rfl ⟨rfl, rfl⟩
  simp [results, Tryz.results146]
end Go.Proofs.YtfcalbjebomgcaaGreatDoor.X

/- ParseFloat at the three texts of lives. (Written by a program of this claim.) -/
namespace Go.Proofs.YtfcalbjebomgcaaGreatDoor.X
open Go.RowKit Go.Proofs.YtfcalbjebomgcaaGreatDoorW.PrintWords Go.Proofs.YtfcalbjebomgcaaGreatDoorW.PrintLast Go.Proofs.YtfcalbjebomgcaaGreatDoorW.PrintMore Go.Proofs.YtfcalbjebomgcaaGreatDoor.Q
/-- What lives needs of the package-level variables. -/
def VarsAt (x : Addr) (n c : Nat) (W : World) : Prop := W.cell? ⟨6, 0, none⟩ = some (.bool true) ∧ W.cell? ⟨7, 0, none⟩ = some (.int .u64 52) ∧ W.cell? ⟨10, 0, none⟩ = some (.slice (some x) n c) ∧
  W.cell? ⟨x.block, x.off + 1, none⟩ = some (.float .f64 4621819117588971520) ∧ W.cell? ⟨x.block, x.off + 2, none⟩ = some (.float .f64 4636737291354636288)
set_option maxHeartbeats 8000000 in
set_option maxRecDepth 100000 in
theorem ex05 (x : Addr) (n c : Nat) (hn : 3 ≤ n) (hnc : n ≤ 1000) (w : World) (h : VarsAt x n c w) : Calls Tryz.prog 157 #[.int .u64 5, .int .i64 (-1), .bool false] w fun e w' => e = .returned (.tuple #[.float .f64 4602678819172646912, .bool true]) ∧ w' = w := by
  obtain ⟨h6, h7, h10, h1, h2⟩ := h
  have hn1 : (1 : Int) < (n : Int) := by omega
  have hn2 : (2 : Int) < (n : Int) := by omega
  have hu := Tryz.underlying280
  have hu36 := Tryz.underlying36
  have hcv : (convert 35 36 (.int .u64 5)).run Tryz.prog w = .ok (.float .f64 4617315517961601024) w := (run_convert_int_float w 35 36 .u64 .f64 5 (by kernel_rfl) hu36).trans (by kernel_rfl)
  have hq : (binOp .quo 36 (.float .f64 4617315517961601024) (.float .f64 4621819117588971520)).run Tryz.prog w = .ok (.float .f64 4602678819172646912) w := run_float_arith w _ _ _ _ _ _ (by kernel_rfl)
  go_enter Tryz.func157, Tryz.ntmps157
  go_wp2
  go_ret2
  exact ⟨rfl, rfl⟩
set_option maxHeartbeats 8000000 in
set_option maxRecDepth 100000 in
theorem at05 (x : Addr) (n c : Nat) (hn : 3 ≤ n) (hnc : n ≤ 1000) (w : World) (h : VarsAt x n c w) : Calls Tryz.prog 144 #[.string ⟨#[48, 46, 53]⟩] w fun e w' => e = .returned (.tuple #[.float .f64 4602678819172646912, .int .i64 3, .nilIface]) ∧ w' = w := by
  have H := Aside0.mk h
  have h6 := h.1
  clear h
  go_enter Tryz.func144, Tryz.ntmps144
  go_wp2_with (first | (go_at_call 146; refine (sp05 _).mono ?_; rintro e w' ⟨rfl, rfl⟩) | (go_at_call 147; refine (rf05 _).mono ?_; rintro e w' ⟨rfl, rfl⟩) | (go_at_call 157; refine (ex05 x n c hn hnc _ H.out).mono ?_; rintro e w' ⟨rfl, rfl⟩) | (go_at_call 155; go_in))
  refine bodyPost_ret (v := .tuple #[.float .f64 4602678819172646912, .int .i64 3, .nilIface]) ?_ rfl ⟨rfl, rfl⟩
  simp [results, Tryz.results144]
set_option maxHeartbeats 8000000 in
set_option maxRecDepth 100000 in
theorem pp05 (x : Addr) (n c : Nat) (hn : 3 ≤ n) (hnc : n ≤ 1000) (w : World) (h : VarsAt x n c w) : Calls Tryz.prog 141 #[.string ⟨#[48, 46, 53]⟩, .int .i64 64] w fun e w' => e = .returned (.tuple #[.float .f64 4602678819172646912, .int .i64 3, .nilIface]) ∧ w' = w := by
  have H := Aside0.mk h
  clear h
  go_enter Tryz.func141, Tryz.ntmps141
  go_wp2_with (go_at_call 144; refine (at05 x n c hn hnc _ H.out).mono ?_; rintro e w' ⟨rfl, rfl⟩)
  refine bodyPost_ret (v := .tuple #[.float .f64 4602678819172646912, .int .i64 3, .nilIface]) ?_ rfl ⟨rfl, rfl⟩
  simp [results, Tryz.results141]
set_option maxHeartbeats 8000000 in
set_option maxRecDepth 100000 in
theorem pi05 (x : Addr) (n c : Nat) (hn : 3 ≤ n) (hnc : n ≤ 1000) (w : World) (h : VarsAt x n c w) : Calls Tryz.prog 138 #[.string ⟨#[48, 46, 53]⟩, .int .i64 64] w fun e w' => e = .returned (.tuple #[.float .f64 4602678819172646912, .nilIface]) ∧ w' = w := by
  have H := Aside0.mk h
  clear h
  go_enter Tryz.func138, Tryz.ntmps138
  go_wp2_with (go_at_call 141; refine (pp05 x n c hn hnc _ H.out).mono ?_; rintro e w' ⟨rfl, rfl⟩)
  go_ret2
  exact ⟨rfl, rfl⟩
set_option maxHeartbeats 8000000 in
set_option maxRecDepth 100000 in
theorem pf05 (x : Addr) (n c : Nat) (hn : 3 ≤ n) (hnc : n ≤ 1000) (w : World) (h : VarsAt x n c w) : Calls Tryz.prog 129 #[.string ⟨#[48, 46, 53]⟩, .int .i64 64] w fun e w' => e = .returned (.tuple #[.float .f64 4602678819172646912, .nilIface]) ∧ w' = w := by
  have H := Aside0.mk h
  clear h
  go_enter Tryz.func129, Tryz.ntmps129
  go_wp2_with (go_at_call 138; refine (pi05 x n c hn hnc _ H.out).mono ?_; rintro e w' ⟨rfl, rfl⟩)
  go_ret2
  exact ⟨rfl, rfl⟩
set_option maxHeartbeats 8000000 in
set_option maxRecDepth 100000 in
theorem ex025 (x : Addr) (n c : Nat) (hn : 3 ≤ n) (hnc : n ≤ 1000) (w : World) (h : VarsAt x n c w) : Calls Tryz.prog 157 #[.int .u64 25, .int .i64 (-2), .bool false] w fun e w' => e = .returned (.tuple #[.float .f64 4598175219545276416, .bool true]) ∧ w' = w := by
  obtain ⟨h6, h7, h10, h1, h2⟩ := h
  have hn1 : (1 : Int) < (n : Int) := by omega
  have hn2 : (2 : Int) < (n : Int) := by omega
  have hu := Tryz.underlying280
  have hu36 := Tryz.underlying36
  have hcv : (convert 35 36 (.int .u64 25)).run Tryz.prog w = .ok (.float .f64 4627730092099895296) w := (run_convert_int_float w 35 36 .u64 .f64 25 (by kernel_rfl) hu36).trans (by kernel_rfl)
  have hq : (binOp .quo 36 (.float .f64 4627730092099895296) (.float .f64 4636737291354636288)).run Tryz.prog w = .ok (.float .f64 4598175219545276416) w := run_float_arith w _ _ _ _ _ _ (by kernel_rfl)
  go_enter Tryz.func157, Tryz.ntmps157
  go_wp2
  go_ret2
  exact ⟨rfl, rfl⟩
set_option maxHeartbeats 8000000 in
set_option maxRecDepth 100000 in
theorem at025 (x : Addr) (n c : Nat) (hn : 3 ≤ n) (hnc : n ≤ 1000) (w : World) (h : VarsAt x n c w) : Calls Tryz.prog 144 #[.string ⟨#[48, 46, 50, 53]⟩] w fun e w' => e = .returned (.tuple #[.float .f64 4598175219545276416, .int .i64 4, .nilIface]) ∧ w' = w := by
  have H := Aside0.mk h
  have h6 := h.1
  clear h
  go_enter Tryz.func144, Tryz.ntmps144
  go_wp2_with (first | (go_at_call 146; refine (sp025 _).mono ?_; rintro e w' ⟨rfl, rfl⟩) | (go_at_call 147; refine (rf025 _).mono ?_; rintro e w' ⟨rfl, rfl⟩) | (go_at_call 157; refine (ex025 x n c hn hnc _ H.out).mono ?_; rintro e w' ⟨rfl, rfl⟩) | (go_at_call 155; go_in))
  refine bodyPost_ret (v := .tuple #[.float .f64 4598175219545276416, .int .i64 4, .nilIface]) ?_ rfl ⟨rfl, rfl⟩
  simp [results, Tryz.results144]
set_option maxHeartbeats 8000000 in
set_option maxRecDepth 100000 in
theorem pp025 (x : Addr) (n c : Nat) (hn : 3 ≤ n) (hnc : n ≤ 1000) (w : World) (h : VarsAt x n c w) : Calls Tryz.prog 141 #[.string ⟨#[48, 46, 50, 53]⟩, .int .i64 64] w fun e w' => e = .returned (.tuple #[.float .f64 4598175219545276416, .int .i64 4, .nilIface]) ∧ w' = w := by
  have H := Aside0.mk h
  clear h
  go_enter Tryz.func141, Tryz.ntmps141
  go_wp2_with (go_at_call 144; refine (at025 x n c hn hnc _ H.out).mono ?_; rintro e w' ⟨rfl, rfl⟩)
  refine bodyPost_ret (v := .tuple #[.float .f64 4598175219545276416, .int .i64 4, .nilIface]) ?_ rfl ⟨rfl, rfl⟩
  simp [results, Tryz.results141]
set_option maxHeartbeats 8000000 in
set_option maxRecDepth 100000 in
theorem pi025 (x : Addr) (n c : Nat) (hn : 3 ≤ n) (hnc : n ≤ 1000) (w : World) (h : VarsAt x n c w) : Calls Tryz.prog 138 #[.string ⟨#[48, 46, 50, 53]⟩, .int .i64 64] w fun e w' => e = .returned (.tuple #[.float .f64 4598175219545276416, .nilIface]) ∧ w' = w := by
  have H := Aside0.mk h
  clear h
  go_enter Tryz.func138, Tryz.ntmps138
  go_wp2_with (go_at_call 141; refine (pp025 x n c hn hnc _ H.out).mono ?_; rintro e w' ⟨rfl, rfl⟩)
  go_ret2
  exact ⟨rfl, rfl⟩
set_option maxHeartbeats 8000000 in
set_option maxRecDepth 100000 in
theorem pf025 (x : Addr) (n c : Nat) (hn : 3 ≤ n) (hnc : n ≤ 1000) (w : World) (h : VarsAt x n c w) : Calls Tryz.prog 129 #[.string ⟨#[48, 46, 50, 53]⟩, .int .i64 64] w fun e w' => e = .returned (.tuple #[.float .f64 4598175219545276416, .nilIface]) ∧ w' = w := by
  have H := Aside0.mk h
  clear h
  go_enter Tryz.func129, Tryz.ntmps129
  go_wp2_with (go_at_call 138; refine (pi025 x n c hn hnc _ H.out).mono ?_; rintro e w' ⟨rfl, rfl⟩)
  go_ret2
  exact ⟨rfl, rfl⟩
set_option maxHeartbeats 8000000 in
set_option maxRecDepth 100000 in
theorem ex075 (x : Addr) (n c : Nat) (hn : 3 ≤ n) (hnc : n ≤ 1000) (w : World) (h : VarsAt x n c w) : Calls Tryz.prog 157 #[.int .u64 75, .int .i64 (-2), .bool false] w fun e w' => e = .returned (.tuple #[.float .f64 4604930618986332160, .bool true]) ∧ w' = w := by
  obtain ⟨h6, h7, h10, h1, h2⟩ := h
  have hn1 : (1 : Int) < (n : Int) := by omega
  have hn2 : (2 : Int) < (n : Int) := by omega
  have hu := Tryz.underlying280
  have hu36 := Tryz.underlying36
  have hcv : (convert 35 36 (.int .u64 75)).run Tryz.prog w = .ok (.float .f64 4634978072750194688) w := (run_convert_int_float w 35 36 .u64 .f64 75 (by kernel_rfl) hu36).trans (by kernel_rfl)
  have hq : (binOp .quo 36 (.float .f64 4634978072750194688) (.float .f64 4636737291354636288)).run Tryz.prog w = .ok (.float .f64 4604930618986332160) w := run_float_arith w _ _ _ _ _ _ (by kernel_rfl)
  go_enter Tryz.func157, Tryz.ntmps157
  go_wp2
  go_ret2
  exact ⟨rfl, rfl⟩
set_option maxHeartbeats 8000000 in
set_option maxRecDepth 100000 in
theorem at075 (x : Addr) (n c : Nat) (hn : 3 ≤ n) (hnc : n ≤ 1000) (w : World) (h : VarsAt x n c w) : Calls Tryz.prog 144 #[.string ⟨#[48, 46, 55, 53]⟩] w fun e w' => e = .returned (.tuple #[.float .f64 4604930618986332160, .int .i64 4, .nilIface]) ∧ w' = w := by
  have H := Aside0.mk h
  have h6 := h.1
  clear h
  go_enter Tryz.func144, Tryz.ntmps144
  go_wp2_with (first | (go_at_call 146; refine (sp075 _).mono ?_; rintro e w' ⟨rfl, rfl⟩) | (go_at_call 147; refine (rf075 _).mono ?_; rintro e w' ⟨rfl, rfl⟩) | (go_at_call 157; refine (ex075 x n c hn hnc _ H.out).mono ?_; rintro e w' ⟨rfl, rfl⟩) | (go_at_call 155; go_in))
  refine bodyPost_ret (v := .tuple #[.float .f64 4604930618986332160, .int .i64 4, .nilIface]) ?_ rfl ⟨rfl, rfl⟩
  simp [results, Tryz.results144]
set_option maxHeartbeats 8000000 in
set_option maxRecDepth 100000 in
theorem pp075 (x : Addr) (n c : Nat) (hn : 3 ≤ n) (hnc : n ≤ 1000) (w : World) (h : VarsAt x n c w) : Calls Tryz.prog 141 #[.string ⟨#[48, 46, 55, 53]⟩, .int .i64 64] w fun e w' => e = .returned (.tuple #[.float .f64 4604930618986332160, .int .i64 4, .nilIface]) ∧ w' = w := by
  have H := Aside0.mk h
  clear h
  go_enter Tryz.func141, Tryz.ntmps141
  go_wp2_with (go_at_call 144; refine (at075 x n c hn hnc _ H.out).mono ?_; rintro e w' ⟨rfl, rfl⟩)
  refine bodyPost_ret (v := .tuple #[.float .f64 4604930618986332160, .int .i64 4, .nilIface]) ?_ rfl ⟨rfl, rfl⟩
  simp [results, Tryz.results141]
set_option maxHeartbeats 8000000 in
set_option maxRecDepth 100000 in
theorem pi075 (x : Addr) (n c : Nat) (hn : 3 ≤ n) (hnc : n ≤ 1000) (w : World) (h : VarsAt x n c w) : Calls Tryz.prog 138 #[.string ⟨#[48, 46, 55, 53]⟩, .int .i64 64] w fun e w' => e = .returned (.tuple #[.float .f64 4604930618986332160, .nilIface]) ∧ w' = w := by
  have H := Aside0.mk h
  clear h
  go_enter Tryz.func138, Tryz.ntmps138
  go_wp2_with (go_at_call 141; refine (pp075 x n c hn hnc _ H.out).mono ?_; rintro e w' ⟨rfl, rfl⟩)
  go_ret2
  exact ⟨rfl, rfl⟩
set_option maxHeartbeats 8000000 in
set_option maxRecDepth 100000 in
theorem pf075 (x : Addr) (n c : Nat) (hn : 3 ≤ n) (hnc : n ≤ 1000) (w : World) (h : VarsAt x n c w) : Calls Tryz.prog 129 #[.string ⟨#[48, 46, 55, 53]⟩, .int .i64 64] w fun e w' => e = .returned (.tuple #[.float .f64 4604930618986332160, .nilIface]) ∧ w' = w := by
  have H := Aside0.mk h
  clear h
  go_enter Tryz.func129, Tryz.ntmps129
  go_wp2_with (go_at_call 138; refine (pi075 x n c hn hnc _ H.out).mono ?_; rintro e w' ⟨rfl, rfl⟩)
  go_ret2
  exact ⟨rfl, rfl⟩
end Go.Proofs.YtfcalbjebomgcaaGreatDoor.X
