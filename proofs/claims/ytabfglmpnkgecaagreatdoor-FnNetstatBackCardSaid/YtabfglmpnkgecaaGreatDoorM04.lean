/- The lines of a text: NewLines, Scan, Text, Err by contract. -/
import Derived.Test.YtabfglmpnkgecaaGreatDoorM03
import Derived.StillTailTactics
import Derived.Laws.IdiomStrings
import Derived.Test.YtabfglmpnkgecaaGreatDoorM01
set_option linter.unusedVariables false
set_option linter.unusedSimpArgs false
namespace Go.Proofs.YtabfglmpnkgecaaGreatDoor.X
open Go.RowKit Go.Proofs.YtabfglmpnkgecaaGreatDoorW.PrintWords Go.Proofs.YtabfglmpnkgecaaGreatDoorW.PrintLast Go.Proofs.YtabfglmpnkgecaaGreatDoorW.PrintMore Go.Proofs.YtabfglmpnkgecaaGreatDoor.Q

/-- Block b holds a reader of lines: the text that is left, the line, no error. -/
def LinesAt (b : Nat) (text line : ByteArray) (W : World) : Prop := W.heap[b]? = some (.cells #[.string text, .string line, .int .i64 65536, .nilIface] 113 (0, 0))

theorem newLines_calls (t : ByteArray) (w : World) : Calls Tryz.prog 47 #[.string t] w fun e w' => e = .returned (.pointer (some ⟨w.heap.size, 0, none⟩)) ∧ LinesAt w.heap.size t ⟨#[]⟩ w' ∧ Below w.heap.size w w' := by
  have hu := Tryz.underlying113
  go_enter Tryz.func47, Tryz.ntmps47
  go_wp2
  go_ret
  exact ⟨rfl, blk_new _ _, below_alloc (Below.refl _ _) _⟩

theorem text_calls (b : Nat) (text line : ByteArray) (w : World) (h : LinesAt b text line w) : Calls Tryz.prog 50 #[.pointer (some ⟨b, 0, none⟩)] w fun e w' => e = .returned (.string line) ∧ w' = w := by
  have hu := Tryz.underlying113
  have z0 : ∀ j, w.cell? ⟨b, j, none⟩ = (#[.string text, .string line, .int .i64 65536, .nilIface] : Array Value)[j]? := fun j => blk_cell h j
  go_enter Tryz.func50, Tryz.ntmps50
  go_wp2
  go_ret
  exact ⟨rfl, rfl⟩
theorem err_calls (b : Nat) (text line : ByteArray) (w : World) (h : LinesAt b text line w) : Calls Tryz.prog 54 #[.pointer (some ⟨b, 0, none⟩)] w fun e w' => e = .returned .nilIface ∧ w' = w := by
  have hu := Tryz.underlying113
  have z0 : ∀ j, w.cell? ⟨b, j, none⟩ = (#[.string text, .string line, .int .i64 65536, .nilIface] : Array Value)[j]? := fun j => blk_cell h j
  go_enter Tryz.func54, Tryz.ntmps54
  go_wp2
  go_ret
  exact ⟨rfl, rfl⟩
/-- Of what was there, block b alone has turned. -/
def Just (b : Nat) (w W : World) : Prop := Below b w W ∧ ∀ k, k ≠ b → W.heap[k]? = w.heap[k]?
theorem Just.refl (b : Nat) (w : World) : Just b w w := ⟨Below.refl b w, fun _ _ => rfl⟩
theorem Just.set {b : Nat} {w W : World} (h : Just b w W) (o : Nat) (v : Value) : Just b w (W.setCell ⟨b, o, none⟩ v) :=
  ⟨by apply Below.setCell h.1; exact Nat.le_refl b, fun k hk => (Below.heap_setCell W ⟨b, o, none⟩ v k hk).trans (h.2 k hk)⟩
theorem Just.drewN {b : Nat} {w W : World} (h : Just b w W) (n : Nat) : Just b w (W.drewN n) := ⟨pw_below_drewN h.1 n, h.2⟩
theorem scan_end (b : Nat) (line : ByteArray) (w : World) (h : LinesAt b ⟨#[]⟩ line w) : Calls Tryz.prog 48 #[.pointer (some ⟨b, 0, none⟩)] w fun e w' => e = .returned (.bool false) ∧ LinesAt b ⟨#[]⟩ ⟨#[]⟩ w' ∧ Just b w w' := by
  have hu := Tryz.underlying113
  have z0 : ∀ j, w.cell? ⟨b, j, none⟩ = (#[.string ⟨#[]⟩, .string line, .int .i64 65536, .nilIface] : Array Value)[j]? := fun j => blk_cell h j
  have f0 : ∀ j, w.frozen? ⟨b, j, none⟩ = false := fun j => blk_frozen h j
  go_enter Tryz.func48, Tryz.ntmps48
  go_wp2_with fail
  go_ret
  exact ⟨rfl, blk_put h 1 _ rfl, Just.set (Just.refl b w) _ _⟩
theorem extract_left (T : ByteArray) (L R : List UInt8) (h : T.data.toList = L ++ R) : T.extract 0 L.length = ⟨L.toArray⟩ := by
  apply ba_ext
  rw [ByteArray.data_extract, Array.toList_extract, h]
  simp
theorem extract_right (T : ByteArray) (L R : List UInt8) (c : UInt8) (h : T.data.toList = L ++ c :: R) : T.extract (L.length + 1) T.size = ⟨R.toArray⟩ := by
  have hs : T.size = L.length + 1 + R.length := by rw [ba_size, h]; simp; omega
  apply ba_ext
  rw [ByteArray.data_extract, Array.toList_extract, h, hs]
  have h2 : L.length + 1 + R.length - (L.length + 1) = R.length := by omega
  simp [h2]
theorem bt_list (T : ByteArray) (i : Nat) (h : i < T.size) : bt T i = ((T.data.toList.getD i 0).toNat : Int) := by
  have h2 : (i : Int).toNat < T.size := by simpa using h
  rw [bt, dif_pos h2]
  congr 2
  simp only [Int.toNat_natCast]
  have h3 : i < T.data.toList.length := by rw [← ba_size]; exact h
  rw [List.getD_eq_getElem?_getD, List.getElem?_eq_getElem h3]
  rfl
set_option maxHeartbeats 4000000 in
set_option maxRecDepth 100000 in
theorem scan_line (b : Nat) (T line : ByteArray) (L R : List UInt8) (hT : T.data.toList = L ++ 10 :: R) (hL : L.length < 65536) (hR : R.length ≤ 1000000) (h10 : ∀ c ∈ L, c ≠ 10 ∧ c ≠ 13) (w : World) (h : LinesAt b T line w) : Calls Tryz.prog 48 #[.pointer (some ⟨b, 0, none⟩)] w fun e w' => e = .returned (.bool true) ∧ LinesAt b ⟨R.toArray⟩ ⟨L.toArray⟩ w' ∧ Just b w w' := by
  have hu := Tryz.underlying113
  have hsz : T.size = L.length + 1 + R.length := by rw [ba_size, hT]; simp; omega
  have z0 : ∀ j, w.cell? ⟨b, j, none⟩ = (#[.string T, .string line, .int .i64 65536, .nilIface] : Array Value)[j]? := fun j => blk_cell h j
  have f0 : ∀ j, w.frozen? ⟨b, j, none⟩ = false := fun j => blk_frozen h j
  have hne : (T.toList == []) = false := by
    rw [ByteArray.toList_eq, hT]
    cases L <;> rfl
  have H1 : Aside0 (LinesAt b T ⟨#[]⟩ (w.setCell ⟨b, 1, none⟩ (.string ⟨#[]⟩)) ∧ Just b w (w.setCell ⟨b, 1, none⟩ (.string ⟨#[]⟩))) := ⟨blk_put h 1 _ rfl, Just.set (Just.refl b w) _ _⟩
  have HT := Aside0.mk hT
  have H10 := Aside0.mk h10
  clear hT h10 h
  go_enter Tryz.func48, Tryz.ntmps48
  go_upto_region 4 with (fail)
  clear z0 f0
  generalize (w.setCell ⟨b, 1, none⟩ (.string ⟨#[]⟩)) = w1 at *
  have z1 : ∀ j, w1.cell? ⟨b, j, none⟩ = (#[.string T, .string ⟨#[]⟩, .int .i64 65536, .nilIface] : Array Value)[j]? := fun j => blk_cell H1.out.1 j
  go_wp2_with fail
  go_loopw [3] (fun v3 W => ∃ i : Nat, i ≤ L.length ∧ v3 = .int .i64 i ∧ W = w1) (fun v3 _ => L.length - (intOf v3).toNat)
  case atStart => exact ⟨0, by omega, rfl, rfl⟩
  case round =>
    obtain ⟨i, hi, rfl, rfl⟩ := hrel
    have hs1 : (i : Int) < (T.size : Int) := by omega
    have hs2 : i < T.size := by omega
    replace hsz := Aside0.mk hsz
    by_cases hlt : i < L.length
    · have hb : ∀ h : i < T.size, ((T[i]'h).toNat : Int) = bt T i := bt_at T i
      have hne10 : (bt T i != 10) = true := by
        rw [bt_list T i hs2, HT.out]
        have hc : (L ++ 10 :: R).getD i 0 = L[i] := by rw [List.getD_eq_getElem?_getD, List.getElem?_append_left hlt, List.getElem?_eq_getElem hlt]; rfl
        rw [hc]
        have := (H10.out L[i] (List.getElem_mem hlt)).1
        refine bne_iff_ne.2 (fun h => this ?_)
        exact UInt8.toNat_inj.1 (by simpa using Int.ofNat.inj h)
      generalize bt T i = c at *
      go_wp2_with fail
      all_goals exact ⟨⟨i + 1, by omega, by simp, trivial⟩, by simp [intOf]; omega⟩
    · obtain rfl : i = L.length := by omega
      have hb : ∀ h : L.length < T.size, ((T[L.length]'h).toNat : Int) = bt T L.length := bt_at T L.length
      have he10 : bt T L.length = 10 := by
        rw [bt_list T L.length hs2, HT.out]
        simp
      have hn10 : (bt T L.length != 10) = false := by rw [he10]; rfl
      clear he10
      generalize bt T L.length = c at *
      have hs3 : (L.length : Int) < 65536 := by omega
      have hs4 : (L.length : Int) ≤ (T.size : Int) := by omega
      have hs5 : ¬ (65536 : Int) ≤ (L.length : Int) := by omega
      replace hL := Aside0.mk hL
      replace hR := Aside0.mk hR
      have f1 : ∀ j, wr.frozen? ⟨b, j, none⟩ = false := fun j => blk_frozen H1.out.1 j
      go_upto_region 7 with (fail)
      clear hb hn10
      go_upto_region 11 with (fail)
      rw [extract_left T L _ HT.out]
      have H2 : Aside0 (LinesAt b T ⟨L.toArray⟩ (wr.setCell ⟨b, 1, none⟩ (.string ⟨L.toArray⟩)) ∧ Just b w (wr.setCell ⟨b, 1, none⟩ (.string ⟨L.toArray⟩))) := ⟨blk_put H1.out.1 1 _ rfl, Just.set H1.out.2 _ _⟩
      clear z1 f1 H1
      generalize (wr.setCell ⟨b, 1, none⟩ (.string ⟨L.toArray⟩)) = w2 at *
      have z1 : ∀ j, w2.cell? ⟨b, j, none⟩ = (#[.string T, .string ⟨L.toArray⟩, .int .i64 65536, .nilIface] : Array Value)[j]? := fun j => blk_cell H2.out.1 j
      have f1 : ∀ j, w2.frozen? ⟨b, j, none⟩ = false := fun j => blk_frozen H2.out.1 j
      have hs6 : (L.length : Int) + 1 ≤ (T.size : Int) := by omega
      go_upto_region 14 with (fail)
      rw [extract_right T L R 10 HT.out]
      have H3 : Aside0 (LinesAt b ⟨R.toArray⟩ ⟨L.toArray⟩ (w2.setCell ⟨b, 0, none⟩ (.string ⟨R.toArray⟩)) ∧ Just b w (w2.setCell ⟨b, 0, none⟩ (.string ⟨R.toArray⟩))) := ⟨blk_put H2.out.1 0 _ rfl, Just.set H2.out.2 _ _⟩
      clear z1 f1 H2 HT hs6 hs5 hs4 hs3 hsz hne hu
      generalize (w2.setCell ⟨b, 0, none⟩ (.string ⟨R.toArray⟩)) = w3 at *
      have hu := Tryz.underlying113
      have z1 : w3.cell? ⟨b, 1, none⟩ = some (.string ⟨L.toArray⟩) := (blk_cell H3.out.1 1).trans rfl
      have fin : ∀ nq, LinesAt b ⟨R.toArray⟩ ⟨L.toArray⟩ (w3.drewN nq) ∧ Just b w (w3.drewN nq) := fun nq => ⟨H3.out.1, Just.drewN H3.out.2 nq⟩
      replace fin := Aside0.mk fin
      cases hLL : L with
      | nil =>
        subst hLL
        go_quiet (fail)
        rename_i nq
        have H4 := Aside0.mk (fin.out nq)
        clear fin
        go_wp2_with fail
        go_ret
        exact ⟨rfl, H4.out⟩
      | cons c0 L0 =>
        have hlen : (⟨L.toArray⟩ : ByteArray).size = L0.length + 1 := by rw [ba_size, ba_list, hLL]; rfl
        have hlast : bt ⟨L.toArray⟩ L0.length ≠ 13 := by
          rw [bt_list _ _ (by omega), ba_list]
          have hlt2 : L0.length < L.length := by rw [hLL]; simp
          rw [List.getD_eq_getElem?_getD, List.getElem?_eq_getElem hlt2]
          have := (H10.out _ (List.getElem_mem hlt2)).2
          intro h
          exact this (UInt8.toNat_inj.1 (by simpa using Int.ofNat.inj h))
        have hlast2 : (bt ⟨L.toArray⟩ L0.length == 13) = false := beq_eq_false_iff_ne.2 hlast
        have hb : ∀ h : L0.length < (⟨L.toArray⟩ : ByteArray).size, (((⟨L.toArray⟩ : ByteArray)[L0.length]'h).toNat : Int) = bt ⟨L.toArray⟩ L0.length := bt_at _ L0.length
        have hl2 : (L0.length : Int) < 65536 := by have := hL.out; rw [hLL] at this; simp at this; omega
        rw [← hLL]
        clear hLL hlast
        generalize hLB : (⟨L.toArray⟩ : ByteArray) = LB at *
        replace hLB := Aside0.mk hLB
        generalize bt LB L0.length = c2 at *
        generalize L0.length = m at *
        have e1 : LB.size = m + 1 := hlen
        have e2 : (0 : Int) < (m : Int) + 1 := by omega
        have e3 : m < LB.size := by omega
        replace hlen := Aside0.mk hlen
        go_quiet (fail)
        rename_i nq
        have H4 := Aside0.mk (fin.out nq)
        clear fin
        go_wp2_with fail
        go_ret
        rw [hLB.out]
        exact ⟨rfl, H4.out⟩
end Go.Proofs.YtabfglmpnkgecaaGreatDoor.X

-- Written by a program of this claim's session (after the kit's print, with a kind for float64). Lean checks it.
namespace Go.Proofs.YtabfglmpnkgecaaGreatDoor.Q
open Go.RowKit Go.Proofs.YtabfglmpnkgecaaGreatDoorW.PrintWords Go.Proofs.YtabfglmpnkgecaaGreatDoorW.PrintLast Go.Proofs.YtabfglmpnkgecaaGreatDoorW.PrintMore
attribute [local go_sem] max2_int min2_int max_two min_two max_three min_three max_four min_four   -- for this text's walks alone
set_option linter.unusedVariables false
set_option linter.unusedSimpArgs false

/-! ### procfs_zzIndex: function 201 -/
def procfs_zzIndex.l0 : Nat → ByteArray → ByteArray → Int → Option (Int)
  | 0, _, _, _ => none
  | k + 1, x0, x1, x5 => if (wrap64 (x5 + (x1.size : Int))) ≤ (x0.size : Int) then (if 0 ≤ x5 then (if x5 ≤ (wrap64 (x5 + (x1.size : Int))) then (if (x0.extract (x5 : Int).toNat ((wrap64 (x5 + (x1.size : Int))) : Int).toNat).toList = x1.toList then (some x5) else (procfs_zzIndex.l0 k x0 x1 (wrap64 (x5 + 1)))) else (none)) else (none)) else (some (-1))
def procfs_zzIndex.f (k : Nat) (a0 : ByteArray) (a1 : ByteArray) : Option (Int) := procfs_zzIndex.l0 k a0 a1 0
theorem procfs_zzIndex.mono_l : ∀ k, (∀ y0 y1 y2, LeO (procfs_zzIndex.l0 k y0 y1 y2) (procfs_zzIndex.l0 (k + 1) y0 y1 y2))
  | 0 => fun _ _ _ r h => by simp [procfs_zzIndex.l0] at h
  | k + 1 => by
    have ih0 := procfs_zzIndex.mono_l k
    · intro y0 y1 y2
      unfold procfs_zzIndex.l0
      repeat' first
      | (with_reducible exact ih0 _ _ _)
      | (with_reducible exact LeO.refl _)
      | (with_reducible exact LeO.none _)
      | (with_reducible refine LeO.ite ?_ ?_)
      | (with_reducible refine LeO.bind ?_ (fun _ => ?_))
      | exact ih0 _ _ _
      | exact LeO.none _
      | refine LeO.ite ?_ ?_
      | refine LeO.bind ?_ (fun _ => ?_)
theorem procfs_zzIndex.mono : ∀ a0 a1 k, LeO (procfs_zzIndex.f k a0 a1) (procfs_zzIndex.f (k + 1) a0 a1) := by
  intro a0 a1 k
  have ih0 := procfs_zzIndex.mono_l k
  unfold procfs_zzIndex.f
  repeat' first
      | (with_reducible exact ih0 _ _ _)
      | (with_reducible exact LeO.refl _)
      | (with_reducible exact LeO.none _)
      | (with_reducible refine LeO.ite ?_ ?_)
      | (with_reducible refine LeO.bind ?_ (fun _ => ?_))
      | exact ih0 _ _ _
      | exact LeO.none _
      | refine LeO.ite ?_ ?_
      | refine LeO.bind ?_ (fun _ => ?_)
set_option maxHeartbeats 8000000 in
set_option maxRecDepth 100000 in
theorem procfs_zzIndex.calls (k : Nat) (a0 : ByteArray) (a1 : ByteArray) (r : Int) (w : World) (h : procfs_zzIndex.f k a0 a1 = some r) :
    Calls Tryz.prog 201 #[.string a0, .string a1] w fun e w' => e = .returned (.int .i64 r) ∧ Drawn0 w w' := by
  have H : (procfs_zzIndex.l0 k a0 a1 0) = some r := h
  clear h
  have H' := Aside0.mk H
  clear H
  go_enter Tryz.func201, Tryz.ntmps201
  go_wp2
  go_loopg [5] k (fun kq v5 w' => ∃ (x5_1 : Int), v5 = .int .i64 x5_1 ∧ Aside0 (procfs_zzIndex.l0 kq a0 a1 x5_1 = some r) ∧ Aside0 (kq ≤ k) ∧ Drawn0 w w')
  case atStart => exact ⟨(0), (by first | rfl | (simp; done) | (simp [*]; done)), H', ⟨Nat.le_refl _⟩, by repeat (first | exact Drawn0.refl _ | apply Drawn0.step)⟩
  case round =>
    clear H'
    try clear c2
    try clear p2
    obtain ⟨x5_1, rfl, HA, HK1, ⟨m1, rfl⟩⟩ := hrel
    cases gk with
    | zero => exact absurd HA.out (by simp [procfs_zzIndex.l0])
    | succ k1 =>
      have H := HA.out
      clear HA
      simp only [procfs_zzIndex.l0] at H
      by_cases c3 : (wrap64 (x5_1 + (a1.size : Int))) ≤ (a0.size : Int)
      · rw [if_pos c3] at H
        have c3b0 : decide ((wrap64 (x5_1 + (a1.size : Int))) ≤ (a0.size : Int)) = true := decide_eq_true c3
        clear c3
        by_cases c4 : 0 ≤ x5_1
        · rw [if_pos c4] at H
          have c4b0 := eq_true c4
          have c4b1 : decide (0 ≤ x5_1) = true := decide_eq_true c4
          clear c4
          by_cases c5 : x5_1 ≤ (wrap64 (x5_1 + (a1.size : Int)))
          · rw [if_pos c5] at H
            have c5b0 := eq_true c5
            have c5b1 : decide (x5_1 ≤ (wrap64 (x5_1 + (a1.size : Int)))) = true := decide_eq_true c5
            have c6b0 := eq_true (of_decide_eq_true (by first | (with_reducible assumption) | assumption) : (wrap64 (x5_1 + (a1.size : Int))) ≤ (a0.size : Int))
            by_cases c7 : (a0.extract (x5_1 : Int).toNat ((wrap64 (x5_1 + (a1.size : Int))) : Int).toNat).toList = a1.toList
            · rw [if_pos c7] at H
              have c7b0 : ((a0.extract (x5_1 : Int).toNat ((wrap64 (x5_1 + (a1.size : Int))) : Int).toNat).toList == a1.toList) = true := beq_iff_eq.mpr c7
              have c7b1 : ((a0.extract (x5_1 : Int).toNat ((wrap64 (x5_1 + (a1.size : Int))) : Int).toNat).toList != a1.toList) = false := bne_eq_false_iff_eq.mpr c7
              clear c7
              obtain rfl := Option.some.inj H
              go_wp2
              go_ret
              exact ⟨by first | rfl | (simp; done) | (simp [*]; done), by repeat (first | exact Drawn0.refl _ | apply Drawn0.step)⟩
            · rw [if_neg c7] at H
              have c7b0 : ((a0.extract (x5_1 : Int).toNat ((wrap64 (x5_1 + (a1.size : Int))) : Int).toNat).toList == a1.toList) = false := beq_eq_false_iff_ne.mpr c7
              have c7b1 : ((a0.extract (x5_1 : Int).toNat ((wrap64 (x5_1 + (a1.size : Int))) : Int).toNat).toList != a1.toList) = true := bne_iff_ne.mpr c7
              have H' := Aside0.mk H
              clear H
              go_wp2
              go_roundg k1
              case measure => have := HK1.out; omega
              case rel => exact ⟨(wrap64 (x5_1 + 1)), (by first | rfl | (simp; done) | (simp [*]; done)), H', ⟨by have := HK1.out; omega⟩, by repeat (first | exact Drawn0.refl _ | apply Drawn0.step)⟩
          · rw [if_neg c5] at H
            exact absurd H (by simp)
        · rw [if_neg c4] at H
          exact absurd H (by simp)
      · rw [if_neg c3] at H
        have c3b0 : decide ((wrap64 (x5_1 + (a1.size : Int))) ≤ (a0.size : Int)) = false := decide_eq_false c3
        clear c3
        obtain rfl := Option.some.inj H
        go_wp2
        go_ret
        exact ⟨by first | rfl | (simp; done) | (simp [*]; done), by repeat (first | exact Drawn0.refl _ | apply Drawn0.step)⟩

end Go.Proofs.YtabfglmpnkgecaaGreatDoor.Q

/- zzSplit at a blank. -/
namespace Go.Proofs.YtabfglmpnkgecaaGreatDoor.X
open Go.RowKit Go.Proofs.YtabfglmpnkgecaaGreatDoorW.PrintWords Go.Proofs.YtabfglmpnkgecaaGreatDoorW.PrintLast Go.Proofs.YtabfglmpnkgecaaGreatDoorW.PrintMore Go.Proofs.YtabfglmpnkgecaaGreatDoor.Q

/-- Texts with a blank between them. -/
def joinL (p : ByteArray) (ps : List ByteArray) : List UInt8 := p.data.toList ++ ps.flatMap (fun s => 32 :: s.data.toList)
theorem ext1 (T : ByteArray) (i : Nat) (h : i < T.size) : (T.extract i (i + 1)).toList = [T.data.toList.getD i 0] := by
  have h3 : i < T.data.toList.length := by rw [← ba_size]; exact h
  rw [ByteArray.toList_eq, ByteArray.data_extract, Array.toList_extract, List.getD_eq_getElem?_getD, List.getElem?_eq_getElem h3]
  simp only [List.extract_eq_take_drop, Nat.add_sub_cancel_left]
  rw [List.drop_eq_getElem_cons h3]
  rfl
theorem idx_at (T : ByteArray) (L R : List UInt8) (hT : T.data.toList = L ++ 32 :: R) (h32 : ∀ c ∈ L, c ≠ 32) (hs : T.size ≤ 1000000) : ∀ m i, i + m = L.length → ∃ k, procfs_zzIndex.l0 k T ⟨#[32]⟩ (i : Int) = some (L.length : Int)
  | 0, i, h => ⟨1, by
      have hsz : T.size = L.length + 1 + R.length := by rw [ba_size, hT]; simp; omega
      unfold procfs_zzIndex.l0
      have h1 : ((⟨#[32]⟩ : ByteArray).size : Int) = 1 := rfl
      rw [h1, show wrap64 ((i : Int) + 1) = ((i + 1 : Nat) : Int) by unfold wrap64; omega, if_pos (by omega), if_pos (by omega), if_pos (by omega), Int.toNat_natCast, Int.toNat_natCast, ext1 T i (by omega), if_pos (by
        rw [hT]; obtain rfl : i = L.length := by omega
        simp [ByteArray.toList_eq])]
      congr 1; omega⟩
  | m + 1, i, h => by
    have hsz : T.size = L.length + 1 + R.length := by rw [ba_size, hT]; simp; omega
    obtain ⟨k, hk⟩ := idx_at T L R hT h32 hs m (i + 1) (by omega)
    refine ⟨k + 1, ?_⟩
    unfold procfs_zzIndex.l0
    have h1 : ((⟨#[32]⟩ : ByteArray).size : Int) = 1 := rfl
    have hi : i < L.length := by omega
    rw [h1, show wrap64 ((i : Int) + 1) = ((i + 1 : Nat) : Int) by unfold wrap64; omega, if_pos (by omega), if_pos (by omega), if_pos (by omega), Int.toNat_natCast, Int.toNat_natCast, ext1 T i (by omega), if_neg (by
      rw [hT, List.getD_eq_getElem?_getD, List.getElem?_append_left hi, List.getElem?_eq_getElem hi]
      have := h32 L[i] (List.getElem_mem hi)
      simpa [ByteArray.toList_eq] using this)]
    exact hk
theorem idx_no (T : ByteArray) (h32 : ∀ c ∈ T.data.toList, c ≠ 32) (hs : T.size ≤ 1000000) : ∀ m i, i + m = T.size → ∃ k, procfs_zzIndex.l0 k T ⟨#[32]⟩ (i : Int) = some (-1)
  | 0, i, h => ⟨1, by
      unfold procfs_zzIndex.l0
      have h1 : ((⟨#[32]⟩ : ByteArray).size : Int) = 1 := rfl
      rw [h1, show wrap64 ((i : Int) + 1) = ((i + 1 : Nat) : Int) by unfold wrap64; omega, if_neg (by omega)]⟩
  | m + 1, i, h => by
    obtain ⟨k, hk⟩ := idx_no T h32 hs m (i + 1) (by omega)
    refine ⟨k + 1, ?_⟩
    unfold procfs_zzIndex.l0
    have h1 : ((⟨#[32]⟩ : ByteArray).size : Int) = 1 := rfl
    have hi : i < T.data.toList.length := by rw [← ba_size]; omega
    rw [h1, show wrap64 ((i : Int) + 1) = ((i + 1 : Nat) : Int) by unfold wrap64; omega, if_pos (by omega), if_pos (by omega), if_pos (by omega), Int.toNat_natCast, Int.toNat_natCast, ext1 T i (by omega), if_neg (by
      rw [List.getD_eq_getElem?_getD, List.getElem?_eq_getElem hi]
      have := h32 _ (List.getElem_mem hi)
      simpa [ByteArray.toList_eq] using this)]
    exact hk
theorem index_at (T : ByteArray) (L R : List UInt8) (hT : T.data.toList = L ++ 32 :: R) (h32 : ∀ c ∈ L, c ≠ 32) (hs : T.size ≤ 1000000) (w : World) :
    Calls Tryz.prog 201 #[.string T, .string ⟨#[32]⟩] w fun e w' => e = .returned (.int .i64 (L.length : Int)) ∧ Drawn0 w w' := by
  obtain ⟨k, hk⟩ := idx_at T L R hT h32 hs L.length 0 (by omega)
  exact procfs_zzIndex.calls k T ⟨#[32]⟩ _ w hk
theorem index_no (T : ByteArray) (h32 : ∀ c ∈ T.data.toList, c ≠ 32) (hs : T.size ≤ 1000000) (w : World) :
    Calls Tryz.prog 201 #[.string T, .string ⟨#[32]⟩] w fun e w' => e = .returned (.int .i64 (-1)) ∧ Drawn0 w w' := by
  obtain ⟨k, hk⟩ := idx_no T h32 hs T.size 0 (by omega)
  exact procfs_zzIndex.calls k T ⟨#[32]⟩ _ w hk
theorem info9 : (Tryz.prog.info? 9).map (fun i => (i.zero, i.size, i.bytes)) = some (some (.string ⟨#[]⟩), 1, 16) := by kernel_rfl
theorem str_FK (W : World) (ok : Nat → Prop) (s : ByteArray) : Kd.FK Kd.string W ok s [.string s] := fun _ _ => rfl
def szOf : Value → Nat | .string s => s.size | _ => 0
set_option maxHeartbeats 4000000 in
set_option maxRecDepth 100000 in
theorem split_calls (p : ByteArray) (ps : List ByteArray) (hl : ps.length ≤ 1000) (T : ByteArray) (hT : T.data.toList = joinL p ps) (hno : ∀ s ∈ p :: ps, ∀ c ∈ s.data.toList, c ≠ 32) (hs : T.size ≤ 1000000) (w : World) :
    Calls Tryz.prog 49 #[.string T, .string ⟨#[32]⟩] w fun e w' => ∃ A c, e = .returned (.slice A (ps.length + 1) c) ∧ Kd.F Kd.string w' (fun k => w.heap.size ≤ k) A (ps.length + 1) (p :: ps) ∧ Below w.heap.size w w' := by
  have ht29 := Tryz.underlying29
  have hz : (⟨#[32]⟩ : ByteArray).size = 1 := rfl
  have HNO := Aside0.mk hno
  have HL := Aside0.mk hl
  have H0 : Aside0 ([] ++ p :: ps = p :: ps ∧ T.data.toList = joinL p ps ∧ T.size ≤ 1000000) := ⟨rfl, hT, hs⟩
  have HN0 : Aside0 (Kd.N Kd.string 9 w w.heap.size (fun k => w.heap.size ≤ k) (.slice none 0 0) [] ∧ Below w.heap.size w w) := ⟨Kd.N_nil _ _ _ _ _, Below.refl _ _⟩
  clear hno hl hT hs
  generalize hB : (⟨#[32]⟩ : ByteArray) = B at *
  replace hB := Aside0.mk hB
  go_enter Tryz.func49, Tryz.ntmps49
  go_wp2_with fail
  go_loopw [0, 5] (fun v0 v5 W => ∃ (dn : List ByteArray) (p' : ByteArray) (ps' : List ByteArray) (T' : ByteArray), v0 = .string T' ∧ Aside0 (dn ++ p' :: ps' = p :: ps ∧ T'.data.toList = joinL p' ps' ∧ T'.size ≤ 1000000) ∧ Aside0 (Kd.N Kd.string 9 W w.heap.size (fun k => w.heap.size ≤ k) v5 dn ∧ Below w.heap.size w W)) (fun v0 _ _ => szOf v0)
  case atStart => exact ⟨[], p, ps, T, rfl, H0, HN0⟩
  case round =>
    clear HN0 H0
    obtain ⟨dn, p', ps', T', rfl, HE, HN⟩ := hrel
    have hno' : ∀ c ∈ p'.data.toList, c ≠ 32 := HNO.out p' (by rw [← HE.out.1]; simp)
    have hdl : dn.length + 1 + ps'.length = ps.length + 1 := by
      have := congrArg List.length HE.out.1
      simp only [List.length_append, List.length_cons] at this
      omega
    cases ps' with
    | nil =>
      have HI := Aside0.mk (index_no T' (by rw [HE.out.2.1]; simpa [joinL] using hno') HE.out.2.2)
      have hTp : T' = p' := ba_ext (by rw [HE.out.2.1]; simp [joinL])
      rw [hB.out] at HI
      clear hno'
      subst hTp
      go_wp2_with (first | (go_at_call 201; refine (HI.out _).mono ?_; rintro e w1 ⟨rfl, ⟨n1, rfl⟩⟩; have HM : Aside0 (Kd.N Kd.string 9 (wr.drewN n1) w.heap.size (fun k => w.heap.size ≤ k) u5 dn ∧ Below w.heap.size w (wr.drewN n1)) := ⟨Kd.N_below HN.out.1 (pw_below_drewN (Below.refl _ _) n1), pw_below_drewN HN.out.2 n1⟩; generalize wr.drewN n1 = w2 at *) | ((with_reducible refine gate_builtin (b := .append) (xs := #[.tmp 42, .tmp 44]) rfl ?_); at_builtin; refine Kd.N_append Kd.string (w0 := w) w.heap.size rfl (.tmp 42) (.tmp 44) 29 9 (.string ⟨#[]⟩) 16 rfl ht29 info9 rfl (by decide) (by omega) u5 dn T' [.string T'] (fun k => w.heap.size ≤ k) (fun _ => False) rfl rfl ?aP ?aK ?aF ?aO ?aB ?aS ?aL ?_; (case aP => exact str_FK _ _ T'); (case aK => exact fun k hk => hk.elim); (case aF => exact fun k hk => Nat.le_trans HM.out.2.size hk); (case aO => exact HM.out.1); (case aB => exact HM.out.2); (case aS => exact HM.out.2.size); (case aL => have := HL.out; omega); intro v1 w9 ho hb hg hat; have HN6 : Aside0 (Kd.N Kd.string 9 w9 w.heap.size (fun k => w.heap.size ≤ k) v1 (dn ++ [T']) ∧ Below w.heap.size w w9) := ⟨ho, hb⟩; clear ho hb hg hat HM HN))
      have HE2 := HE.out.1
      obtain ⟨A, c, rfl⟩ := Kd.N_slice HN6.out.1
      have hlen : (dn ++ [T']).length = ps.length + 1 := by rw [HE2]; simp
      go_ret
      rw [hlen]
      refine ⟨A, c, rfl, ?_, HN6.out.2⟩
      have := Kd.N_F HN6.out.1
      rwa [hlen, HE2] at this
    | cons q qs =>
      have hJ : joinL p' (q :: qs) = p'.data.toList ++ 32 :: joinL q qs := by simp [joinL]
      have hT' : T'.data.toList = p'.data.toList ++ 32 :: joinL q qs := by rw [HE.out.2.1, hJ]
      have HI := Aside0.mk (index_at T' _ _ hT' hno' HE.out.2.2)
      have e1 := extract_left T' _ _ hT'
      have e2 := extract_right T' _ _ 32 hT'
      have hsz : T'.size = p'.data.toList.length + 1 + (joinL q qs).length := by rw [ba_size, hT']; simp; omega
      have hs2 := HE.out.2.2
      have hrest : Aside0 ((dn ++ [p']) ++ q :: qs = p :: ps ∧ (⟨(joinL q qs).toArray⟩ : ByteArray).data.toList = joinL q qs ∧ (⟨(joinL q qs).toArray⟩ : ByteArray).size ≤ 1000000) := ⟨by rw [← HE.out.1]; simp, rfl, by rw [ba_size, ba_list]; omega⟩
      have hpp : (⟨p'.data.toList.toArray⟩ : ByteArray) = p' := rfl
      rw [hpp] at e1
      have hRs : (⟨(joinL q qs).toArray⟩ : ByteArray).size = (joinL q qs).length := by rw [ba_size, ba_list]
      rw [hB.out] at HI
      clear hno' hT' hJ HE hpp
      generalize (⟨(joinL q qs).toArray⟩ : ByteArray) = R at *
      generalize (joinL q qs).length = m at *
      generalize p'.data.toList.length = n at *
      have hc1 : (n : Int) ≤ (T'.size : Int) := by omega
      have hc2 : (n : Int) + 1 ≤ (T'.size : Int) := by omega
      have hc3 : ¬ (n : Int) < 0 := by omega
      have e3 : wrap64 ((n : Int) + 1) = (n : Int) + 1 := by unfold wrap64; omega
      go_wp2_with (first | (go_at_call 201; refine (HI.out _).mono ?_; rintro e w1 ⟨rfl, ⟨n1, rfl⟩⟩; have HM : Aside0 (Kd.N Kd.string 9 (wr.drewN n1) w.heap.size (fun k => w.heap.size ≤ k) u5 dn ∧ Below w.heap.size w (wr.drewN n1)) := ⟨Kd.N_below HN.out.1 (pw_below_drewN (Below.refl _ _) n1), pw_below_drewN HN.out.2 n1⟩; generalize wr.drewN n1 = w2 at *) | ((with_reducible refine gate_builtin (b := .append) (xs := #[.tmp 46, .tmp 50]) rfl ?_); at_builtin; refine Kd.N_append Kd.string (w0 := w) w.heap.size rfl (.tmp 46) (.tmp 50) 29 9 (.string ⟨#[]⟩) 16 rfl ht29 info9 rfl (by decide) (by omega) u5 dn p' [.string p'] (fun k => w.heap.size ≤ k) (fun _ => False) rfl rfl ?aP ?aK ?aF ?aO ?aB ?aS ?aL ?_; (case aP => exact str_FK _ _ p'); (case aK => exact fun k hk => hk.elim); (case aF => exact fun k hk => Nat.le_trans HM.out.2.size hk); (case aO => exact HM.out.1); (case aB => exact HM.out.2); (case aS => exact HM.out.2.size); (case aL => have := HL.out; omega); intro v1 w9 ho hb hg hat; have HN6 : Aside0 (Kd.N Kd.string 9 w9 w.heap.size (fun k => w.heap.size ≤ k) v1 (dn ++ [p']) ∧ Below w.heap.size w w9) := ⟨ho, hb⟩; clear ho hb hg hat HM HN))
      rw [hsz] at e2
      rw [e2]
      exact ⟨⟨dn ++ [p'], q, qs, R, rfl, hrest, HN6⟩, by simp only [szOf]; omega⟩
end Go.Proofs.YtabfglmpnkgecaaGreatDoor.X
