/- One row of parseProcNetstat (two lines), by law. -/
import Derived.Test.YtabfglmpnkgecaaGreatDoorM12
import Derived.Laws.CopyOwn
set_option linter.unusedVariables false
set_option linter.unusedSimpArgs false
namespace Go.Proofs.YtabfglmpnkgecaaGreatDoor.X
open Go.RowKit Go.Proofs.YtabfglmpnkgecaaGreatDoorW.PrintWords Go.Proofs.YtabfglmpnkgecaaGreatDoorW.PrintLast Go.Proofs.YtabfglmpnkgecaaGreatDoorW.PrintMore Go.Proofs.YtabfglmpnkgecaaGreatDoor.Q

/-- What a row sets. -/
def rowM (r : S31) (M : Nat → Option Nat) : Nat → Option Nat := (List.range r.f2.length).foldl (stepM r) M
set_option maxRecDepth 100000 in
set_option maxHeartbeats 4000000 in
theorem keys_wp (r : S31) (hr : FineRow r) (P : ByteArray) (b7 : Nat) (h11 : 11 < b7) (a0 : Act) (W0 : World) (hlt : b7 < W0.heap.size) (hv : VarsW W0) (A8 A9 : Option Addr) (c8 c9 : Nat)
    (e7 : a0.eval (.tmp 7) = .pointer (some ⟨b7, 0, none⟩)) (e8 : a0.eval (.tmp 8) = .slice A8 (r.f2.length + 1) c8) (e9 : a0.eval (.tmp 9) = .slice A9 (r.f2.length + 1) c9) (e10 : a0.eval (.tmp 10) = .string r.f0)
    (F8 : Kd.F Kd.string W0 (fun k => b7 < k) A8 (r.f2.length + 1) (P :: r.f2)) (F9 : Kd.F Kd.string W0 (fun k => b7 < k) A9 (r.f2.length + 1) (P :: r.f1.map valT))
    (M : Nat → Option Nat) (hz : a0.tmps.size = 559) (hS : StP b7 M W0) (e11 : a0.eval (.tmp 11) = .int .i64 1) (Q : Exit → Act → World → Prop)
    (k : ∀ (a' : Act) (W' : World), Keep a0 a' → Only b7 W0 W' → StP b7 (rowM r M) W' → Q .normal a' W') : (Code.block 2 keysCode).wp Tryz.prog Q a0 W0 := by
  have hl123 := (fine_small r hr).2.1
  refine wp_block ?_
  unfold keysCode
  refine wp_loop_ghost (fun n a W => ∃ i, i + n = r.f2.length ∧ Keep a0 a ∧ a.eval (.tmp 11) = .int .i64 ((i + 1 : Nat) : Int) ∧ Only b7 W0 W ∧ StP b7 ((List.range i).foldl (stepM r) M) W) r.f2.length ?_ ?_
  · exact ⟨0, by omega, ⟨hz, rfl, fun _ _ _ => rfl⟩, e11, Only.refl _ _, hS⟩
  rintro n a W ⟨i, hin, hK, x11, hO, hSi⟩
  have hkz := hK.1
  refine wp_seq (wp_seq (wp_region_lit ?_))
  unfold reg11
  refine Kd.event_run rfl (o_move _ _ _ _ _ _ _ _ x11) ?_
  refine Kd.event_run rfl (o_move _ _ _ _ _ _ (.slice A8 (r.f2.length + 1) c8) _ (by simp only [mkO]; rw [ev_other (by omega)]; exact (hK.2.2 8 (by omega) (by omega)).trans e8)) ?_
  refine Kd.event_run rfl (o_len _ _ _ _ _ A8 (r.f2.length + 1) c8 _ (by simp only [mkO]; rw [ev_same (by simp only [size_put]; omega)])) ?_
  refine Kd.event_run rfl (o_lss _ _ _ _ _ _ (i + 1) (r.f2.length + 1) _ (by simp only [mkO]; rw [ev_other (by omega), ev_other (by omega), ev_same (by omega)]) (by simp only [mkO]; rw [ev_same (by simp only [size_put]; omega)])) ?_
  refine wpList_nil ?_
  simp only [mkO]
  generalize hga : ((((a.put (some 39) _).put (some 40) _).put (some 41) _).put (some 42) _) = a1
  have K1 : Keep a0 a1 := by
    rw [← hga]
    exact ((((hK.put (by omega) _).put (by omega) _).put (by omega) _).put (by omega) _)
  have y11 : a1.eval (.tmp 11) = .int .i64 ((i + 1 : Nat) : Int) := by
    rw [← hga]
    rw [ev_other (by omega), ev_other (by omega), ev_other (by omega), ev_other (by omega)]
    exact x11
  have y42 : a1.eval (.tmp 42) = .bool (decide (i + 1 < r.f2.length + 1)) := by
    rw [← hga, ev_same (by simp only [size_put]; omega)]
  clear hga hK x11 hkz a
  by_cases hi : i < r.f2.length
  · rw [decide_eq_true (by omega)] at y42
    refine wp_cond_true y42 (wp_skip ?_)
    refine wp_seq ?_
    refine key_wp r hr i hi P b7 h11 a0 W0 hlt hv A8 A9 c8 c9 e7 e8 e9 e10 F8 F9 _ a1 W K1 hO hSi y11 _ ?_
    intro a2 W2 K2 z11 hO2 hS2
    have kz2 := K2.1
    refine wp_region_lit ?_
    unfold reg12
    refine Kd.event_run rfl (o_move _ _ _ _ _ _ _ _ z11) ?_
    refine Kd.event_run rfl (o_add1 _ _ _ _ _ (i + 1) _ (by simp only [mkO]; rw [ev_same (by omega)]) (by omega)) ?_
    refine Kd.event_run rfl (o_assign _ _ _ _ _ _ (.int .i64 ((i + 1 + 1 : Nat) : Int)) _ (by simp only [mkO]; rw [ev_same (by simp only [size_put]; omega)])) ?_
    refine wpList_nil ?_
    simp only [mkO]
    refine ⟨n - 1, by omega, i + 1, by omega, (((K2.put (by omega) _).put (by omega) _).put (by omega) _), ev_same (by simp only [size_put]; omega), hO2, ?_⟩
    rw [List.range_succ, List.foldl_append]
    exact hS2
  · rw [decide_eq_false (by omega)] at y42
    obtain rfl : i = r.f2.length := by omega
    refine wp_cond_false y42 (wp_exit ?_)
    exact k a1 W K1 hO hSi
end Go.Proofs.YtabfglmpnkgecaaGreatDoor.X

/- One row of parseProcNetstat (two lines), by law. -/
namespace Go.Proofs.YtabfglmpnkgecaaGreatDoor.X
open Go.RowKit Go.Proofs.YtabfglmpnkgecaaGreatDoorW.PrintWords Go.Proofs.YtabfglmpnkgecaaGreatDoorW.PrintLast Go.Proofs.YtabfglmpnkgecaaGreatDoorW.PrintMore Go.Proofs.YtabfglmpnkgecaaGreatDoor.Q

/-- What the outer loop keeps of its slots. -/
def KeepO (a0 a : Act) : Prop := a.tmps.size = 559 ∧ a.defers = a0.defers ∧ ∀ t : Nat, 4 ≤ t → t ≤ 7 → a.eval (.tmp t) = a0.eval (.tmp t)
theorem KeepO.put {a0 a : Act} (h : KeepO a0 a) {s : Nat} (hs : 7 < s) (v : Value) : KeepO a0 (a.put (some s) v) := ⟨size_put.trans h.1, defers_put.trans h.2.1, fun t h1 h2 => (ev_other (by omega)).trans (h.2.2 t h1 h2)⟩
theorem Just.low {b : Nat} {w W : World} (h : Just b w W) : Below b w W := h.1
theorem row_line (r : S31) (R : List UInt8) : rowL r ++ R = lineA r ++ 10 :: (lineV r ++ 10 :: R) := by simp [rowL]
set_option maxRecDepth 100000 in
set_option maxHeartbeats 8000000 in
theorem row_wp (r : S31) (hr : FineRow r) (b4 b6 b7 : Nat) (h46 : b4 < b6) (h67 : b6 < b7) (h11 : 11 < b6) (a0 : Act) (W0 : World) (hv : VarsW W0) (T line : ByteArray) (R : List UInt8) (hT : T.data.toList = rowL r ++ R) (hR : R.length ≤ 900000)
    (e6 : a0.eval (.tmp 6) = .pointer (some ⟨b6, 0, none⟩)) (e7 : a0.eval (.tmp 7) = .pointer (some ⟨b7, 0, none⟩)) (hz : a0.tmps.size = 559) (hL : LinesAt b6 T line W0)
    (M : Nat → Option Nat) (hS : StP b7 M W0) (Q : Exit → Act → World → Prop)
    (k : ∀ (a' : Act) (W' : World), KeepO a0 a' → LinesAt b6 ⟨R.toArray⟩ ⟨(lineV r).toArray⟩ W' → Below b6 W0 W' → StP b7 (rowM r M) W' → Q .normal a' W') : rowCode.wp Tryz.prog Q a0 W0 := by
  have hA := lineA_len r hr
  have hV := lineV_len r hr
  have h123 := fine_small r hr
  rw [row_line] at hT
  have K0 : KeepO a0 a0 := ⟨hz, rfl, fun _ _ _ => rfl⟩
  unfold rowCode
  refine wp_seq (wp_seq (wp_region_lit ?_))
  unfold reg3
  refine Kd.event_run rfl (o_move _ _ _ _ _ _ _ _ e6) ?_
  refine goesL_ (some 19) rfl rfl Tryz.func48 (by kernel_rfl) (by kernel_rfl) #[.pointer (some ⟨b6, 0, none⟩)] rfl ?_ ?_
  · simp only [mkO, List.map_toArray, List.map_cons, List.map_nil]
    rw [ev_same (by omega)]
  refine (scan_line b6 T line (lineA r) (lineV r ++ 10 :: R) hT (by omega) (by simp; omega) (by rw [lineA_join]; exact join_line _ _ (wordsA r hr)) W0 hL).mono ?_
  rintro e W1 ⟨rfl, hL1, hJ1⟩
  refine ⟨_, rfl, ?_⟩
  refine wpList_nil ?_
  refine wp_cond_true (by simp only [mkO]; rw [ev_same (by simp only [size_put]; omega)]) (wp_skip ?_)
  have hB1 := hJ1.low
  have hS1 := hS.just hJ1 h67
  have hlt1 : b6 < W1.heap.size := blk_lt hL1
  have hlt71 : b7 < W1.heap.size := by
    obtain ⟨cs1, hcs1, _⟩ := hS1
    exact blk_lt hcs1
  clear hL
  refine wp_block ?_
  refine wp_seq (wp_region_lit ?_)
  unfold reg4
  refine Kd.event_run rfl (o_move _ _ _ _ _ _ (.pointer (some ⟨b6, 0, none⟩)) _ (by simp only [mkO]; rw [ev_other (by omega), ev_other (by omega)]; exact e6)) ?_
  refine goesL_ (some 21) rfl rfl Tryz.func50 (by kernel_rfl) (by kernel_rfl) #[.pointer (some ⟨b6, 0, none⟩)] rfl ?_ ?_
  · simp only [mkO, List.map_toArray, List.map_cons, List.map_nil]
    rw [ev_same (by simp only [size_put]; omega)]
  refine (text_calls b6 _ _ W1 hL1).mono ?_
  rintro e W1' ⟨rfl, hw⟩
  replace hw := hw.symm
  subst hw
  refine ⟨_, rfl, ?_⟩
  refine goesL_ (some 22) rfl rfl Tryz.func49 (by kernel_rfl) (by kernel_rfl) #[.string ⟨(lineA r).toArray⟩, .string ⟨#[32]⟩] rfl ?_ ?_
  · simp only [mkO, List.map_toArray, List.map_cons, List.map_nil]
    rw [ev_same (by simp only [size_put]; omega)]
    rfl
  refine (split_calls (headT r.f0) r.f2 (by omega) ⟨(lineA r).toArray⟩ (lineA_join r) (fun s hs c hc => (plain_ne (wordsA r hr s hs c hc)).2.2) (by rw [ba_size, ba_list]; omega) W1).mono ?_
  rintro e W2 ⟨A8, c8, rfl, F8, hB2⟩
  refine ⟨_, rfl, ?_⟩
  refine Kd.event_run rfl (o_assign _ _ _ _ _ _ (.slice A8 (r.f2.length + 1) c8) _ (by simp only [mkO]; rw [ev_same (by simp only [size_put]; omega)])) ?_
  refine wpList_nil ?_
  have F8' : Kd.F Kd.string W2 (fun k => b7 < k) A8 (r.f2.length + 1) (headT r.f0 :: r.f2) := Kd.F_mono F8 (fun k hk => by omega)
  have hL2 : LinesAt b6 _ _ W2 := blk_below hL1 hB2
  have hS2 := hS1.below hB2
  have hB02 := below_low hB1 hB2 (by omega)
  have hv1 : VarsW W2 := by
    obtain ⟨g1, g2, g3, g4⟩ := hv
    have e : ∀ k, k ≤ 11 → W2.heap[k]? = W0.heap[k]? := fun k hk => hB02.block k (by omega)
    exact ⟨(World.cell?_of_block (e 6 (by omega))).trans g1, (World.cell?_of_block (e 7 (by omega))).trans g2, (World.cell?_of_block (e 11 (by omega))).trans g3, (World.cell?_of_block (e 11 (by omega))).trans g4⟩
  have hlt2 := hB2.size
  clear F8 hL1 hS1 hB1 hJ1
  refine wp_seq (wp_region_lit ?_)
  unfold reg5
  refine Kd.event_run rfl (o_move _ _ _ _ _ _ (.pointer (some ⟨b6, 0, none⟩)) _ (by simp only [mkO]; rw [ev_other (by omega), ev_other (by omega), ev_other (by omega), ev_other (by omega), ev_other (by omega), ev_other (by omega)]; exact e6)) ?_
  refine goesL_ (some 24) rfl rfl Tryz.func48 (by kernel_rfl) (by kernel_rfl) #[.pointer (some ⟨b6, 0, none⟩)] rfl ?_ ?_
  · simp only [mkO, List.map_toArray, List.map_cons, List.map_nil]
    rw [ev_same (by simp only [size_put]; omega)]
  refine (scan_line b6 _ _ (lineV r) R rfl (by omega) (by omega) (by rw [lineV_join]; exact join_line _ _ (wordsV r hr)) W2 hL2).mono ?_
  rintro e W3 ⟨rfl, hL3, hJ3⟩
  refine ⟨_, rfl, ?_⟩
  refine wpList_nil ?_
  have F83 : Kd.F Kd.string W3 (fun k => b7 < k) A8 (r.f2.length + 1) (headT r.f0 :: r.f2) := Kd.F_step F8' (fun k hk _ => hJ3.2 k (by omega))
  have hS3 := hS2.just hJ3 h67
  have hB03 := below_low hB02 hJ3.1 (Nat.le_refl _)
  have hv3 : VarsW W3 := by
    obtain ⟨g1, g2, g3, g4⟩ := hv1
    have e : ∀ k, k ≤ 11 → W3.heap[k]? = W2.heap[k]? := fun k hk => hJ3.1.block k (by omega)
    exact ⟨(World.cell?_of_block (e 6 (by omega))).trans g1, (World.cell?_of_block (e 7 (by omega))).trans g2, (World.cell?_of_block (e 11 (by omega))).trans g3, (World.cell?_of_block (e 11 (by omega))).trans g4⟩
  have hlt3 := hJ3.1.size
  clear F8' hL2 hS2 hB02 hJ3 hv1
  refine wp_seq (wp_region_lit ?_)
  unfold reg6
  refine Kd.event_run rfl (o_move _ _ _ _ _ _ (.pointer (some ⟨b6, 0, none⟩)) _ (by simp only [mkO]; rw [ev_other (by omega), ev_other (by omega), ev_other (by omega), ev_other (by omega), ev_other (by omega), ev_other (by omega), ev_other (by omega), ev_other (by omega)]; exact e6)) ?_
  refine goesL_ (some 26) rfl rfl Tryz.func50 (by kernel_rfl) (by kernel_rfl) #[.pointer (some ⟨b6, 0, none⟩)] rfl ?_ ?_
  · simp only [mkO, List.map_toArray, List.map_cons, List.map_nil]
    rw [ev_same (by simp only [size_put]; omega)]
  refine (text_calls b6 _ _ W3 hL3).mono ?_
  rintro e W3' ⟨rfl, hw⟩
  replace hw := hw.symm
  subst hw
  refine ⟨_, rfl, ?_⟩
  refine goesL_ (some 27) rfl rfl Tryz.func49 (by kernel_rfl) (by kernel_rfl) #[.string ⟨(lineV r).toArray⟩, .string ⟨#[32]⟩] rfl ?_ ?_
  · simp only [mkO, List.map_toArray, List.map_cons, List.map_nil]
    rw [ev_same (by simp only [size_put]; omega)]
    rfl
  refine (split_calls (headT r.f0) (r.f1.map valT) (by simp; omega) ⟨(lineV r).toArray⟩ (lineV_join r) (fun s hs c hc => (plain_ne (wordsV r hr s hs c hc)).2.2) (by rw [ba_size, ba_list]; omega) W3).mono ?_
  rintro e W4 ⟨A9, c9, rfl, F9, hB4⟩
  refine ⟨_, rfl, ?_⟩
  rw [List.length_map, h123.2.2.1] at F9 ⊢
  refine Kd.event_run rfl (o_assign _ _ _ _ _ _ (.slice A9 (r.f2.length + 1) c9) _ (by simp only [mkO]; rw [ev_same (by simp only [size_put]; omega)])) ?_
  refine wpList_nil ?_
  have F9' : Kd.F Kd.string W4 (fun k => b7 < k) A9 (r.f2.length + 1) (headT r.f0 :: r.f1.map valT) := Kd.F_mono F9 (fun k hk => by omega)
  have F84 := Kd.F_below F83 hB4
  have hL4 : LinesAt b6 _ _ W4 := blk_below hL3 hB4
  have hS4 := hS3.below hB4
  have hB04 := below_low hB03 hB4 (by omega)
  have hv4 : VarsW W4 := by
    obtain ⟨g1, g2, g3, g4⟩ := hv3
    have e : ∀ k, k ≤ 11 → W4.heap[k]? = W3.heap[k]? := fun k hk => hB4.block k (by omega)
    exact ⟨(World.cell?_of_block (e 6 (by omega))).trans g1, (World.cell?_of_block (e 7 (by omega))).trans g2, (World.cell?_of_block (e 11 (by omega))).trans g3, (World.cell?_of_block (e 11 (by omega))).trans g4⟩
  have hlt4 := hB4.size
  obtain ⟨ad8, hA8, hc8⟩ := at_str F84 (by simp) 0 (by omega)
  subst hA8
  rw [show (headT r.f0 :: r.f2).getD 0 ⟨#[]⟩ = headT r.f0 from rfl] at hc8
  clear F83 F9 hL3 hS3 hB03 hB4 hv3
  simp only [mkO]
  generalize hga : ((((((((((((a0.put (some 18) _).put (some 19) _).put (some 20) _).put (some 21) _).put (some 22) _).put (some 8) _).put (some 23) _).put (some 24) _).put (some 25) _).put (some 26) _).put (some 27) _).put (some 9) _) = a1
  have K1 : KeepO a0 a1 := by
    rw [← hga]
    exact ((((((((((((K0.put (by omega) _).put (by omega) _).put (by omega) _).put (by omega) _).put (by omega) _).put (by omega) _).put (by omega) _).put (by omega) _).put (by omega) _).put (by omega) _).put (by omega) _).put (by omega) _)
  have y8 : a1.eval (.tmp 8) = .slice (some ad8) (r.f2.length + 1) c8 := by
    rw [← hga]
    rw [ev_other (by omega), ev_other (by omega), ev_other (by omega), ev_other (by omega), ev_other (by omega), ev_other (by omega)]
    rw [ev_same (by simp only [size_put]; omega)]
  have y9 : a1.eval (.tmp 9) = .slice A9 (r.f2.length + 1) c9 := by
    rw [← hga, ev_same (by simp only [size_put]; omega)]
  have kz1 := K1.1
  clear hga
  refine wp_seq (wp_region_lit ?_)
  unfold reg7
  refine Kd.event_run rfl (o_move _ _ _ _ _ _ _ _ y8) ?_
  refine Kd.event_run rfl (o_index0 _ _ _ _ _ ad8 (r.f2.length + 1) c8 _ (by simp only [mkO]; rw [ev_same (by omega)]) (by omega)) ?_
  refine Kd.event_run rfl (o_load9 _ _ _ _ _ _ _ _ (by simp only [mkO]; rw [ev_same (by simp only [size_put]; omega)]) hc8) ?_
  refine goesL_ (some 31) rfl rfl Tryz.func51 (by kernel_rfl) (by kernel_rfl) #[.string (headT r.f0), .string ⟨#[58]⟩] rfl ?_ ?_
  · simp only [mkO, List.map_toArray, List.map_cons, List.map_nil]
    rw [ev_same (by simp only [size_put]; omega)]
    rfl
  refine (trim_calls r hr W4).mono ?_
  rintro e W5 ⟨rfl, ⟨n5, rfl⟩⟩
  refine ⟨_, rfl, ?_⟩
  have hB5 := pw_below_drewN (Below.refl W4.heap.size W4) n5
  have F95 := Kd.F_below F9' hB5
  have F85 := Kd.F_below F84 hB5
  have hL5 : LinesAt b6 _ _ (W4.drewN n5) := blk_below hL4 hB5
  have hS5 := hS4.below hB5
  have hB05 := below_low hB04 hB5 (by omega)
  have hv5 : VarsW (W4.drewN n5) := hv4
  have hlt5 := hB5.size
  clear F9' F84 hL4 hS4 hB04 hB5 hv4 hc8
  generalize W4.drewN n5 = W5 at *
  refine Kd.event_run rfl (o_assign _ _ _ _ _ _ (.string r.f0) _ (by simp only [mkO]; rw [ev_same (by simp only [size_put]; omega)])) ?_
  refine wpList_nil ?_
  refine wp_seq (wp_seq (wp_region_lit ?_))
  unfold reg8
  refine Kd.event_run rfl (o_move _ _ _ _ _ _ (.slice (some ad8) (r.f2.length + 1) c8) _ (by simp only [mkO]; rw [ev_other (by omega), ev_other (by omega), ev_other (by omega), ev_other (by omega), ev_other (by omega)]; exact y8)) ?_
  refine Kd.event_run rfl (o_len _ _ _ _ _ (some ad8) (r.f2.length + 1) c8 _ (by simp only [mkO]; rw [ev_same (by simp only [size_put]; omega)])) ?_
  refine Kd.event_run rfl (o_move _ _ _ _ _ _ (.slice A9 (r.f2.length + 1) c9) _ (by simp only [mkO]; rw [ev_other (by omega), ev_other (by omega), ev_other (by omega), ev_other (by omega), ev_other (by omega), ev_other (by omega), ev_other (by omega)]; exact y9)) ?_
  refine Kd.event_run rfl (o_len _ _ _ _ _ A9 (r.f2.length + 1) c9 _ (by simp only [mkO]; rw [ev_same (by simp only [size_put]; omega)])) ?_
  refine Kd.event_run rfl (o_same _ _ _ _ _ _ (r.f2.length + 1) _ (by simp only [mkO]; rw [ev_other (by omega), ev_other (by omega), ev_same (by simp only [size_put]; omega)]) (by simp only [mkO]; rw [ev_same (by simp only [size_put]; omega)])) ?_
  refine wpList_nil ?_
  refine wp_cond_false (by simp only [mkO]; rw [ev_same (by simp only [size_put]; omega)]) (wp_skip ?_)
  refine wp_seq (wp_region_lit ?_)
  unfold reg10
  refine Kd.event_run rfl (o_nil _ _ _ _ _ _ _) ?_
  refine wpList_nil ?_
  simp only [mkO]
  generalize hgb : (((((((((((a1.put (some 28) _).put (some 29) _).put (some 30) _).put (some 31) _).put (some 10) _).put (some 32) _).put (some 33) _).put (some 34) _).put (some 35) _).put (some 36) _).put (some 11) _) = a2
  have K2 : KeepO a0 a2 := by
    rw [← hgb]
    exact (((((((((((K1.put (by omega) _).put (by omega) _).put (by omega) _).put (by omega) _).put (by omega) _).put (by omega) _).put (by omega) _).put (by omega) _).put (by omega) _).put (by omega) _).put (by omega) _)
  have x8 : a2.eval (.tmp 8) = .slice (some ad8) (r.f2.length + 1) c8 := by
    rw [← hgb]
    rw [ev_other (by omega), ev_other (by omega), ev_other (by omega), ev_other (by omega), ev_other (by omega), ev_other (by omega), ev_other (by omega), ev_other (by omega), ev_other (by omega), ev_other (by omega), ev_other (by omega)]
    exact y8
  have x9 : a2.eval (.tmp 9) = .slice A9 (r.f2.length + 1) c9 := by
    rw [← hgb]
    rw [ev_other (by omega), ev_other (by omega), ev_other (by omega), ev_other (by omega), ev_other (by omega), ev_other (by omega), ev_other (by omega), ev_other (by omega), ev_other (by omega), ev_other (by omega), ev_other (by omega)]
    exact y9
  have x10 : a2.eval (.tmp 10) = .string r.f0 := by
    rw [← hgb]
    rw [ev_other (by omega), ev_other (by omega), ev_other (by omega), ev_other (by omega), ev_other (by omega), ev_other (by omega)]
    rw [ev_same (by simp only [size_put]; omega)]
  have x11 : a2.eval (.tmp 11) = .int .i64 1 := by
    rw [← hgb, ev_same (by simp only [size_put]; omega)]
  clear hgb y8 y9 K1 kz1 a1
  refine keys_wp r hr (headT r.f0) b7 (by omega) a2 W5 (by omega) hv5 (some ad8) A9 c8 c9 ((K2.2.2 7 (by omega) (by omega)).trans e7) x8 x9 x10 F85 F95 M K2.1 hS5 x11 _ ?_
  intro a3 W6 K3 hO6 hS6
  refine k a3 W6 ⟨K3.1, K3.2.1.trans K2.2.1, fun t g1 g2 => (K3.2.2 t g1 (by omega)).trans (K2.2.2 t g1 g2)⟩ ((hO6.2 b6 (by omega) (by omega)).trans hL5) (below_low hB05 hO6.1 (by omega)) hS6
end Go.Proofs.YtabfglmpnkgecaaGreatDoor.X

/- parseProcNetstat by contract: what it makes of a text that was written from rows. -/
namespace Go.Proofs.YtabfglmpnkgecaaGreatDoor.X
open Go.RowKit Go.Proofs.YtabfglmpnkgecaaGreatDoorW.PrintWords Go.Proofs.YtabfglmpnkgecaaGreatDoorW.PrintLast Go.Proofs.YtabfglmpnkgecaaGreatDoorW.PrintMore Go.Proofs.YtabfglmpnkgecaaGreatDoor.Q

theorem o_buildT (a : Act) (W : World) (pos : String) (s : Nat) (T : TypeId) (parts : List (Nat × Operand)) (cells : Array Value) (af : List Edge) (h : Tryz.prog.built T (parts.map fun (i, x) => (i, a.eval x)) = some cells) :
  (execOp a.eval (mkO pos (some s) (.build T parts.toArray) T af)).run Tryz.prog W = .ok (.value (.agg cells)) W := by
  have h2 : (parts.toArray.map fun (i, x) => (i, a.eval x)).toList = parts.map fun (i, x) => (i, a.eval x) := by simp
  unfold execOp
  simp only [mkO, Sem.run_bind, run_build W T (parts.toArray.map fun (i, x) => (i, a.eval x)) cells (by rw [h2]; exact h)]
  rfl
theorem o_storeT (a : Act) (W : World) (pos : String) (p t : Nat) (T ty : TypeId) (g : Nat) (old cells : Array Value) (af : List Edge) (hx : a.eval (.tmp p) = .pointer (some ⟨g, 0, none⟩)) (hy : a.eval (.tmp t) = .agg cells)
    (hg : W.heap[g]? = some (.cells old ty (0, 0))) (hi : (Tryz.prog.info? T).map (·.size) = some cells.size) (hold : old.size = cells.size) (h1 : cells.all (·.oneCell') = true) :
  (execOp a.eval (mkO pos none (.store T (.tmp p) (.tmp t)) 0 af)).run Tryz.prog W = .ok .skip (W.setRow g cells) := by
  unfold execOp
  simp only [mkO, hx, hy, Instr.storeAt, Instr.sureAddr, Sem.run_bind, Sem.run_pure, Result.andThen_ok, run_storeVar_row W g ty T old cells hg hi hold h1]
theorem results_c58 {fn : Func} {p p' : Tmp} (h : fn.results = #[.cell p 58, .tmp p']) (tmps : Array Value) (w : World) (g : Nat) (t : TypeId) (cs : Array Value) (fr : Nat × Nat) (v : Value)
    (hp : tmps.getD p undef = .pointer (some ⟨g, 0, none⟩)) (hp' : tmps.getD p' undef = v) (hg : w.heap[g]? = some (.cells cs t fr)) (hi : (Tryz.prog.info? 58).map (·.size) = some cs.size) :
    (results fn tmps).run Tryz.prog w = .ok (.tuple #[.agg cs, v]) w := by
  have q : tmps[p]?.getD undef = .pointer (some ⟨g, 0, none⟩) := by simpa using hp
  have q' : tmps[p']?.getD undef = v := by simpa using hp'
  simp [results, h, q, q', asAddr, run_loadVar_row w g t 58 cs fr _ hg Tryz.underlying58 rfl hi]
/-- The cells of an empty ProcNetstat. -/
def zs58 : Array Value := (Value.int .i64 0 :: List.replicate 141 (.pointer none)).toArray
theorem zero58 : (Tryz.prog.info? 58).bind (·.zero) = some (.agg zs58) := by kernel_rfl
theorem size58 : (Tryz.prog.info? 58).map (·.size) = some 142 := by kernel_rfl
theorem built58 : Tryz.prog.built 58 [] = some zs58 := by kernel_rfl
theorem zs58_size : zs58.size = 142 := by simp [zs58]
theorem zs58_one : zs58.all (·.oneCell') = true := by kernel_rfl
theorem zs58_ok (W : World) (b : Nat) : CellsOk W b (fun _ => none) zs58 := by
  refine ⟨zs58_size, by simp [zs58], fun j hj => ⟨.pointer none, ?_, .inl ⟨rfl, rfl⟩⟩⟩
  rw [zs58, List.getElem?_toArray, List.getElem?_cons_succ, List.getElem?_replicate, if_pos hj]
theorem cells_one {W : World} {b : Nat} {M : Nat → Option Nat} {cs : Array Value} (h : CellsOk W b M cs) : cs.all (·.oneCell') = true := by
  obtain ⟨h1, h2, h3⟩ := h
  rw [Array.all_eq_true]
  intro i hi
  rcases i with _ | j
  · rw [Array.getElem?_eq_getElem hi] at h2
    rw [Option.some.inj h2]; rfl
  · obtain ⟨v, hv, hp⟩ := h3 j (by omega)
    rw [Array.getElem?_eq_getElem hi] at hv
    rw [Option.some.inj hv]
    rcases hp with ⟨rfl, _⟩ | ⟨g, x, rfl, _⟩ <;> rfl
/-- What rows set. -/
def Mof (l : List S31) : Nat → Option Nat := l.foldl (fun M r => rowM r M) (fun _ => none)
theorem Mof_snoc (l : List S31) (r : S31) : Mof (l ++ [r]) = rowM r (Mof l) := by simp [Mof]
theorem textL_cons (r : S31) (l : List S31) : textL (r :: l) = rowL r ++ textL l := by simp [textL]
theorem vars_low {B : Nat} {w W : World} (h : VarsW w) (hb : Below B w W) (h11 : 11 < B) : VarsW W := by
  obtain ⟨g1, g2, g3, g4⟩ := h
  have e : ∀ k, k ≤ 11 → W.heap[k]? = w.heap[k]? := fun k hk => hb.block k (by omega)
  exact ⟨(World.cell?_of_block (e 6 (by omega))).trans g1, (World.cell?_of_block (e 7 (by omega))).trans g2, (World.cell?_of_block (e 11 (by omega))).trans g3, (World.cell?_of_block (e 11 (by omega))).trans g4⟩
/-- What parseProcNetstat's call leaves. -/
def ParsedPost (l : List S31) (w : World) (e : Ending) (w' : World) : Prop :=
  ∃ cs, e = .returned (.tuple #[.agg cs, .nilIface]) ∧ CellsOk w' w.heap.size (Mof l) cs ∧ Below w.heap.size w w'
set_option maxRecDepth 100000 in
set_option maxHeartbeats 4000000 in
theorem end_parse (l : List S31) (w : World) (b4 b6 b7 : Nat) (h4w : w.heap.size ≤ b4) (h46 : b4 < b6) (h67 : b6 < b7) (a : Act) (W : World) (hz : a.tmps.size = 559) (hd : a.defers = []) (h4 : a.eval (.tmp 4) = .pointer (some ⟨b4, 0, none⟩)) (h5 : a.eval (.tmp 5) = .nilIface) (h6 : a.eval (.tmp 6) = .pointer (some ⟨b6, 0, none⟩)) (h7 : a.eval (.tmp 7) = .pointer (some ⟨b7, 0, none⟩))
    (text line : ByteArray) (hL : LinesAt b6 text line W) (hb4 : W.heap[b4]? = some (.cells zs58 58 (0, 0))) (hS : StP b7 (Mof l) W) (hB : Below w.heap.size w W) :
    (Code.seq (.region 266 reg266.toArray true) .ret).wp Tryz.prog (bodyPost Tryz.prog Tryz.f37 (ParsedPost l w)) a W := by
  obtain ⟨cs, hcs, hok⟩ := hS
  have hcsz : cs.size = 142 := hok.1
  have hone := cells_one hok
  have hQ : ∀ (n : Option Tmp) (v : Value) c (a : Act) (w1 : World), (Exit.then (Code.ret.wp Tryz.prog (bodyPost Tryz.prog Tryz.f37 (ParsedPost l w))) (bodyPost Tryz.prog Tryz.f37 (ParsedPost l w))) (.panic c) (a.put n v) w1 → (Exit.then (Code.ret.wp Tryz.prog (bodyPost Tryz.prog Tryz.f37 (ParsedPost l w))) (bodyPost Tryz.prog Tryz.f37 (ParsedPost l w))) (.panic c) a w1 := fun n v c a w1 h => by cases n <;> exact h
  refine wp_seq ?_
  refine start_ (n := 5) (S := fun W' => W'.heap[b7]? = some (.cells cs 58 (0, 0)) ∧ CellsOk W' b7 (Mof l) cs ∧ LinesAt b6 text line W' ∧ W'.heap[b4]? = some (.cells zs58 58 (0, 0)) ∧ Below w.heap.size w W') (ds := [3, 4]) #[false, false, false, false, false] (by kernel_rfl) rfl rfl ⟨hcs, hok, hL, hb4, below_step hB (below_drew (Below.refl _ _))⟩ (fun hS0 => ?_)
  generalize W.drew = W0 at hS0 ⊢
  clear hcs hok hL hb4 hB
  refine take_ (i := 0) (N := some 556) (v := .agg cs) #[true, false, false, false, false] rfl rfl (by kernel_rfl) (hQ _ _) (Or.inl ⟨rfl, fun w' hS => ?_⟩) hS0 rfl ?_
  · refine o_loadR _ b7 0 _ _ _ _ 58 cs.toList _ h7 (fun j v hv => ?_) _ Tryz.underlying58 rfl (by rw [size58]; simp [hcsz])
    rw [Nat.zero_add, blk_cell hS.1]
    simpa using hv
  refine pure_ (i := 1) (N := some 557) (v := .pointer (some ⟨b6, 0, none⟩)) #[true, true, false, false, false] rfl rfl (by kernel_rfl) (hQ _ _) (Or.inl ⟨rfl, fun w' => o_move _ _ _ _ _ _ _ _ (by rw [ev_other (by omega)]; exact h6)⟩) rfl ?_
  refine one_ (i := 2) (N := some 558) #[true, true, true, false, false] rfl rfl (by kernel_rfl) (by decide) (fun K hK => ?_)
  refine goes_ Tryz.func54 (by kernel_rfl) (by kernel_rfl) #[.pointer (some ⟨b6, 0, none⟩)] rfl rfl rfl ?_ ?_
  · simp only [List.map_toArray, List.map_cons, List.map_nil]
    rw [ev_same (by simp only [size_put]; omega)]
  refine (err_calls b6 text line W0 hS0.2.2.1).mono ?_
  rintro e W1 ⟨rfl, hw⟩
  replace hw := hw.symm
  subst hw
  refine ⟨_, rfl, ?_⟩
  refine hK.out _ _ hS0 (fun _ => ?_)
  clear hK K
  refine last_skip (i := 3) (w1 := W0.setRow b4 cs) #[true, true, true, true, false] rfl rfl rfl (by kernel_rfl) (by decide) ?_ ?_
  · refine o_storeT _ _ _ _ _ _ 58 b4 zs58 cs _ ?_ ?_ hS0.2.2.2.1 (by rw [size58, hcsz]) (by rw [hcsz, zs58_size]) hone
    · rw [ev_other (by omega), ev_other (by omega), ev_other (by omega)]; exact h4
    · rw [ev_other (by omega), ev_other (by omega), ev_same (by omega)]
  refine last_ (i := 4) (N := some 5) #[true, true, true, true, true] rfl rfl (by kernel_rfl) (by decide) (fun K hK => ?_)
  refine op_value rfl rfl (o_assign _ _ _ _ _ _ .nilIface _ (ev_same (by simp only [size_put]; omega))) ?_
  refine hK.out _ _ ?_
  clear hK K
  refine done_ (by kernel_rfl) ?_
  refine wp_ret ?_
  have hnew := setRow_heap W0 b4 zs58 cs 58 (0, 0) hS0.2.2.2.1
  have hok2 : CellsOk (W0.setRow b4 cs) w.heap.size (Mof l) cs := by
    refine ⟨hcsz, hS0.2.1.2.1, fun j hj => ?_⟩
    obtain ⟨v, hv, hp⟩ := hS0.2.1.2.2 j hj
    refine ⟨v, hv, ?_⟩
    rcases hp with hp | ⟨g, x, g1, g2, g3, g4⟩
    · exact .inl hp
    · exact .inr ⟨g, x, g1, g2, by omega, (setRow_other W0 b4 g cs (by omega)).trans g4⟩
  have fin : ∀ act : Act, act.eval (.tmp 4) = .pointer (some ⟨b4, 0, none⟩) → act.eval (.tmp 5) = .nilIface → act.defers = [] → bodyPost Tryz.prog Tryz.f37 (ParsedPost l w) .ret act (W0.setRow b4 cs) := by
    intro act q4 q5 qd
    have q4' : act.tmps.getD 4 undef = .pointer (some ⟨b4, 0, none⟩) := by simpa [Act.eval] using q4
    have q5' : act.tmps.getD 5 undef = .nilIface := by simpa [Act.eval] using q5
    exact bodyPost_ret (results_c58 rfl _ _ b4 58 cs (0, 0) .nilIface q4' q5' hnew (by rw [size58, hcsz])) qd ⟨cs, rfl, hok2, below_setRow hS0.2.2.2.2 h4w cs⟩
  refine fin _ ?_ ?_ ?_
  · rw [ev_other (by omega), ev_other (by omega), ev_other (by omega), ev_other (by omega)]; exact h4
  · rw [ev_same (by simp only [size_put]; omega)]
  · simp only [defers_put]; exact hd
set_option maxRecDepth 100000 in
set_option maxHeartbeats 4000000 in
theorem parse_calls (l : List S31) (hf : FineRows l) (S : ByteArray) (w : World) (hv : VarsW w) :
    Calls Tryz.prog 37 #[.string ⟨(textL l).toArray⟩, .string S] w (ParsedPost l w) := by
  have h11 : 11 < w.heap.size := World.block_lt_of_cell? w _ hv.2.2.1
  have hl2 := rows_two hf
  refine calls_of_wp Tryz.func37 body37 ?_
  obtain ⟨a, ha⟩ : ∃ a : Act, a = { tmps := #[.string ⟨(textL l).toArray⟩, .string S] ++ Array.replicate (Tryz.f37.ntmps - (#[.string ⟨(textL l).toArray⟩, .string S] : Array Value).size) undef, defers := [] } := ⟨_, rfl⟩
  rw [← ha]
  have e0 : a.eval (.tmp 0) = .string ⟨(textL l).toArray⟩ := by rw [ha]; simp only [Act.eval, Array.getD_eq_getD_getElem?]; rw [Array.getElem?_append_left (by simp)]; rfl
  have hd : a.defers = [] := by rw [ha]
  have hsz : a.tmps.size = 559 := by
    rw [ha]
    have : Tryz.f37.ntmps = 559 := Tryz.ntmps37
    simp [this]
  clear ha
  unfold parseCode
  refine wp_seq (wp_region_lit ?_)
  unfold reg0
  refine Kd.event_run rfl (o_allocZ _ _ _ _ _ _ _ zero58) ?_
  refine Kd.event_run rfl (o_nil _ _ _ _ _ _ _) ?_
  refine wpList_nil ?_
  have hb4 := blk_new w (.cells zs58 58 (0, 0))
  have hB := below_alloc (Below.refl w.heap.size w) (.cells zs58 58 (0, 0))
  have hs1 := World.size_alloc w (.cells zs58 58 (0, 0))
  generalize w.alloc (.cells zs58 58 (0, 0)) = W1 at *
  refine wp_seq (wp_region_lit ?_)
  unfold reg1
  refine Kd.event_run rfl (o_move _ _ _ _ _ _ (.string ⟨(textL l).toArray⟩) _ (by simp only [mkO]; rw [ev_other (by omega), ev_other (by omega)]; exact e0)) ?_
  refine goesL_ (some 16) rfl rfl Tryz.func47 (by kernel_rfl) (by kernel_rfl) #[.string ⟨(textL l).toArray⟩] rfl ?_ ?_
  · simp only [mkO, List.map_toArray, List.map_cons, List.map_nil]
    rw [ev_same (by first | omega | (simp only [size_put]; omega))]
  refine (newLines_calls _ W1).mono ?_
  rintro e W2 ⟨rfl, hL, hB2⟩
  refine ⟨_, rfl, ?_⟩
  refine Kd.event_run rfl (o_assign _ _ _ _ _ _ (.pointer (some ⟨W1.heap.size, 0, none⟩)) _ (by simp only [mkO]; rw [ev_same (by first | omega | (simp only [size_put]; omega))])) ?_
  refine wpList_nil ?_
  have hb42 := blk_below hb4 hB2
  have hB3 := below_step hB hB2
  have hlt6 := blk_lt hL
  clear hb4 hB hB2
  refine wp_seq (wp_region_lit ?_)
  unfold reg2
  refine Kd.event_run rfl (o_buildT _ _ _ _ _ [] zs58 _ built58) ?_
  refine Kd.event_run rfl (o_allocZ _ _ _ _ _ _ _ zero58) ?_
  have hnew := blk_new W2 (.cells zs58 58 (0, 0))
  have hBa := below_alloc (Below.refl W2.heap.size W2) (.cells zs58 58 (0, 0))
  refine event_skip rfl rfl (o_storeT _ _ _ _ _ _ 58 W2.heap.size zs58 zs58 _ (by simp only [mkO]; rw [ev_same (by first | omega | (simp only [size_put]; omega))]) (by simp only [mkO]; rw [ev_other (by omega), ev_same (by simp only [size_put]; omega)]) hnew (by rw [size58, zs58_size]) rfl zs58_one) ?_
  refine wpList_nil ?_
  have hnew2 := setRow_heap _ W2.heap.size zs58 zs58 58 (0, 0) hnew
  have hBs := below_setRow hBa (Nat.le_refl W2.heap.size) zs58
  have hb43 := blk_below hb42 hBs
  have hL3 : LinesAt W1.heap.size _ _ _ := blk_below hL hBs
  have hB4 := below_step hB3 hBs
  have hS3 : StP W2.heap.size (fun _ => none) ((W2.alloc (.cells zs58 58 (0, 0))).setRow W2.heap.size zs58) := ⟨zs58, hnew2, zs58_ok _ _⟩
  clear hnew hBa hnew2 hBs hb42 hL hB3
  generalize ((W2.alloc (.cells zs58 58 (0, 0))).setRow W2.heap.size zs58) = W3 at *
  simp only [mkO]
  generalize hga : (((((((a.put (some 4) _).put (some 5) _).put (some 15) _).put (some 16) _).put (some 6) _).put (some 17) _).put (some 7) _) = a1
  have kz : a1.tmps.size = 559 := by rw [← hga]; simp only [size_put]; exact hsz
  have kd : a1.defers = [] := by rw [← hga]; simp only [defers_put]; exact hd
  have y4 : a1.eval (.tmp 4) = .pointer (some ⟨w.heap.size, 0, none⟩) := by
    rw [← hga]
    rw [ev_other (by omega), ev_other (by omega), ev_other (by omega), ev_other (by omega), ev_other (by omega), ev_other (by omega)]
    rw [ev_same (by first | omega | (simp only [size_put]; omega))]
  have y5 : a1.eval (.tmp 5) = .nilIface := by
    rw [← hga]
    rw [ev_other (by omega), ev_other (by omega), ev_other (by omega), ev_other (by omega), ev_other (by omega)]
    rw [ev_same (by first | omega | (simp only [size_put]; omega))]
  have y6 : a1.eval (.tmp 6) = .pointer (some ⟨W1.heap.size, 0, none⟩) := by
    rw [← hga]
    rw [ev_other (by omega), ev_other (by omega)]
    rw [ev_same (by first | omega | (simp only [size_put]; omega))]
  have y7 : a1.eval (.tmp 7) = .pointer (some ⟨W2.heap.size, 0, none⟩) := by
    rw [← hga, ev_same (by simp only [size_put]; omega)]
  clear hga e0 hd hsz a
  refine wp_seq (wp_block ?_)
  refine wp_loop_ghost (fun n a W => ∃ (d t : List S31) (line : ByteArray), l = d ++ t ∧ t.length = n ∧ KeepO a1 a ∧
    LinesAt W1.heap.size ⟨(textL t).toArray⟩ line W ∧ W.heap[w.heap.size]? = some (.cells zs58 58 (0, 0)) ∧ StP W2.heap.size (Mof d) W ∧ Below w.heap.size w W) l.length ?_ ?_
  · exact ⟨[], l, _, rfl, rfl, ⟨kz, rfl, fun _ _ _ => rfl⟩, hL3, hb43, hS3, hB4⟩
  clear hL3 hb43 hS3 hB4 W3
  rintro n a W ⟨d, t, line, rfl, rfl, hK, hL, hb4, hS, hBl⟩
  have hz := hK.1
  have x4 := (hK.2.2 4 (by omega) (by omega)).trans y4
  have x5 := (hK.2.2 5 (by omega) (by omega)).trans y5
  have x6 := (hK.2.2 6 (by omega) (by omega)).trans y6
  have x7 := (hK.2.2 7 (by omega) (by omega)).trans y7
  cases t with
  | nil =>
    unfold rowCode
    refine wp_seq (wp_seq (wp_region_lit ?_))
    unfold reg3
    refine Kd.event_run rfl (o_move _ _ _ _ _ _ _ _ x6) ?_
    refine goesL_ (some 19) rfl rfl Tryz.func48 (by kernel_rfl) (by kernel_rfl) #[.pointer (some ⟨W1.heap.size, 0, none⟩)] rfl ?_ ?_
    · simp only [mkO, List.map_toArray, List.map_cons, List.map_nil]
      rw [ev_same (by omega)]
    refine (scan_end _ line W hL).mono ?_
    rintro e W4 ⟨rfl, hL4, hJ4⟩
    refine ⟨_, rfl, ?_⟩
    refine wpList_nil ?_
    refine wp_cond_false (by simp only [mkO]; rw [ev_same (by first | omega | (simp only [size_put]; omega))]) (wp_exit ?_)
    rw [List.append_nil]
    refine end_parse d w w.heap.size W1.heap.size W2.heap.size (Nat.le_refl _) (by omega) hlt6 _ W4 ?_ ?_ ?_ ?_ ?_ ?_ _ _ hL4 ((hJ4.2 _ (by omega)).trans hb4) (hS.just hJ4 hlt6) (below_low hBl hJ4.1 (by omega))
    · simp only [mkO, size_put]; exact hz
    · simp only [mkO, defers_put]; exact hK.2.1.trans kd
    · simp only [mkO]; rw [ev_other (by omega), ev_other (by omega)]; exact x4
    · simp only [mkO]; rw [ev_other (by omega), ev_other (by omega)]; exact x5
    · simp only [mkO]; rw [ev_other (by omega), ev_other (by omega)]; exact x6
    · simp only [mkO]; rw [ev_other (by omega), ev_other (by omega)]; exact x7
  | cons r t =>
    have htl : (textL t).length ≤ 900000 := by
      have h1 := textL_len t (fun x hx => fine_mem hf x (by simp [hx]))
      simp at hl2
      omega
    refine row_wp r (fine_mem hf r (by simp)) w.heap.size W1.heap.size W2.heap.size (by omega) hlt6 (by omega) a W (vars_low hv hBl h11) _ line (textL t) (by rw [textL_cons]) htl x6 x7 hz hL _ hS _ ?_
    intro a' W' q1 q2 q3 q4
    refine ⟨t.length, by simp, d ++ [r], t, _, by simp, rfl, ⟨q1.1, q1.2.1.trans hK.2.1, fun t g1 g2 => (q1.2.2 t g1 g2).trans (hK.2.2 t g1 g2)⟩, q2, (q3.block _ (by omega)).trans hb4, ?_, below_low hBl q3 (by omega)⟩
    rw [Mof_snoc]
    exact q4
end Go.Proofs.YtabfglmpnkgecaaGreatDoor.X
