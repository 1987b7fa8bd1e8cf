/- ParseUint32s and ParseUint64s at texts that are the digits of numbers. (Written by a program of this claim.) -/
import Derived.Test.YtfcalbjebomgcaaGreatDoorM12
import Derived.Test.YtfcalbjebomgcaaGreatDoorM08
import Derived.Deep.DeepAppendRoom
import Derived.Laws.IdiomStrings
set_option linter.unusedVariables false
set_option linter.unusedSimpArgs false
namespace Go.Proofs.YtfcalbjebomgcaaGreatDoor.X
open Go.RowKit Go.Proofs.YtfcalbjebomgcaaGreatDoorW.PrintWords Go.Proofs.YtfcalbjebomgcaaGreatDoorW.PrintLast Go.Proofs.YtfcalbjebomgcaaGreatDoorW.PrintMore Go.Proofs.YtfcalbjebomgcaaGreatDoor.Q
theorem info_split {e : TypeId} {z : Value} {n b : Nat} (h : (Tryz.prog.info? e).map (fun i => (i.zero, i.size, i.bytes)) = some (some z, n, b)) : ∃ i, Tryz.prog.info? e = some i ∧ i.zero = some z ∧ i.size = n ∧ i.bytes = b := by
  cases hq : Tryz.prog.info? e with
  | none => simp [hq] at h
  | some i =>
    simp [hq] at h
    exact ⟨i, rfl, h.1, h.2.1, h.2.2⟩
theorem own_below {w w1 : World} {base e size n : Nat} {v : Value} {xs : List Value} (h : w.ownsRow base e size v n xs) (hb : Below w.heap.size w w1) : w1.ownsRow base e size v n xs := by
  obtain ⟨h1, h2⟩ := h
  refine ⟨h1, ?_⟩
  rcases h2 with h2 | ⟨g, cap, cur, h3, h4, h5, h6⟩
  · exact .inl h2
  · exact .inr ⟨g, cap, cur, h3, h4, blk_below h5 hb, h6⟩
theorem take_succ_enc (ns : List Int) (i n : Nat) (wide : Bool) (h : i < ns.length) (hn : ns.getD i 0 = (n : Int)) : (ns.take (i + 1)).map (encI wide) = (ns.take i).map (encI wide) ++ [encI wide (n : Int)] := by
  have h2 : ns[i] = (n : Int) := by rw [← hn, List.getD_eq_getElem?_getD, List.getElem?_eq_getElem h]; rfl
  rw [List.take_succ_eq_append_getElem h, List.map_append, h2]
  rfl

set_option maxHeartbeats 4000000 in
set_option maxRecDepth 100000 in
theorem uints64 (ns : List Int) (hn : ns.length ≤ 1000) (hw : ∀ n ∈ ns, 0 ≤ n ∧ n < 18446744073709551616) (x : Addr) (w : World) (hx : ∀ i, i < ns.length → w.cell? (x.add i) = some (.string ⟨(decL (ns.getD i 0).toNat).toArray⟩)) (hlt : x.block < w.heap.size) :
    Calls Tryz.prog 41 #[.slice (some x) ns.length ns.length] w fun e w' => ∃ g, e = .returned (.tuple #[.slice (some ⟨g, 0, none⟩) ns.length ns.length, .nilIface]) ∧ w.heap.size ≤ g ∧ w'.heap[g]? = some (.cells (ns.map (encI true)).toArray 35 (0, 0)) ∧ Below w.heap.size w w' := by
  have ht := Tryz.underlying28
  have h29 := Tryz.underlying29
  have HX := Aside0.mk hx
  have HL := Aside0.mk hlt
  have HW := Aside0.mk hw
  have hk : ns.length ≤ 9223372036854775807 := by omega
  obtain ⟨ti, hi, hz, hs, hb⟩ := info_split (show (Tryz.prog.info? 35).map (fun i => (i.zero, i.size, i.bytes)) = some (some (.int .u64 0), 1, 8) by kernel_rfl)
  obtain ⟨wm, hmk, hown, hgr⟩ := run_make_own (P := Tryz.prog) w w.heap.size 28 35 ti (.int .u64 0) 1 ht hi hz hs .i64 .i64 ns.length (by rw [hb]; omega) (by simp [maxLen]; omega) (Nat.le_refl _)
  have HO : Aside0 (wm.ownsRow w.heap.size 35 1 (.slice (some ⟨w.heap.size, 0, none⟩) 0 ns.length) 0 [] ∧ Below w.heap.size w wm) := ⟨hown, (Below.refl _ _).grown hgr (Nat.le_refl _) (fun k hk => by cases hk)⟩
  clear hx hlt hw hown hgr
  go_enter Tryz.func41, Tryz.ntmps41
  go_wp2_with fail
  go_loopw [4, 14] (fun v4 v14 W => ∃ i : Nat, i ≤ ns.length ∧ v14 = .int .i64 i ∧ v4 = .slice (some ⟨w.heap.size, 0, none⟩) i ns.length ∧ Aside0 (W.ownsRow w.heap.size 35 1 (.slice (some ⟨w.heap.size, 0, none⟩) i ns.length) i ((ns.take i).map (encI true)) ∧ Below w.heap.size w W)) (fun _ v14 _ => ns.length - (intOf v14).toNat)
  case atStart => exact ⟨0, by omega, rfl, rfl, HO⟩
  case round =>
    clear HO hmk
    obtain ⟨i, hi', rfl, rfl, HR⟩ := hrel
    by_cases hlt : i < ns.length
    · have hc : wr.cell? (x.add i) = some (.string ⟨(decL (ns.getD i 0).toNat).toArray⟩) := (World.cell?_of_block (HR.out.2.block _ (by rw [show (x.add i).block = x.block by unfold Addr.add; split <;> rfl]; exact HL.out))).trans (HX.out i hlt)
      have hm : ns.getD i 0 ∈ ns := by rw [List.getD_eq_getElem?_getD, List.getElem?_eq_getElem hlt]; exact List.getElem_mem hlt
      obtain ⟨n, hn0⟩ : ∃ n : Nat, ns.getD i 0 = (n : Int) := ⟨(ns.getD i 0).toNat, by have := (HW.out _ hm).1; omega⟩
      have hn1 : n < 18446744073709551616 := by have := (HW.out _ hm).2; omega
      rw [hn0, Int.toNat_natCast] at hc
      have HN := Aside0.mk hn0
      clear hm hn0
      go_wp2_with fail
      refine (Tryz.strconv_ParseUint_10_at64_ok ⟨(decL n).toArray⟩ ?_ n ?_ wr).mono ?_
      · have := decL_len20 (n := n) (by omega)
        rw [ba_size]
        show (decL n).length ≤ _
        omega
      · exact parse_dec 64 n (by decide) (by omega)
      rintro e w2 ⟨rfl, hw2⟩
      have hb2 : Below wr.heap.size wr w2 := by
        rcases hw2 with rfl | rfl
        · exact Below.refl _ _
        · exact Lib.bytesWorld_below _ _ _
      have HR2 : Aside0 (w2.ownsRow w.heap.size 35 1 (.slice (some ⟨w.heap.size, 0, none⟩) i ns.length) i ((ns.take i).map (encI true)) ∧ Below w.heap.size w w2) := ⟨own_below HR.out.1 hb2, below_step HR.out.2 hb2⟩
      clear hw2 hb2 HR hc
      have hn2 : (n : Int) < 18446744073709551616 := by omega
      have hn3 : (0 : Int) ≤ (n : Int) := by omega
      have HB2 := Aside0.mk (blk_new w2 (.cells #[.int .u64 (n : Int)] 35 (0, 0)))
      go_upto_region 8 with (fail)
      go_wp2_with ((with_reducible refine gate_dst (N := 29) rfl ?_); refine wpList_append_own_spare _ rfl (.tmp 26) (.tmp 28) 28 rfl w.heap.size 35 ti 1 ht hi hs w.heap.size i ns.length ((ns.take i).map (encI true)) rfl (HR2.out.1.alloc _) ⟨w2.heap.size, 0, none⟩ 1 1 [.int .u64 (n : Int)] rfl rfl ?_ ?_ (by omega) ?_; (case' refine_1 => (intro j u hj; rw [add_plain, blk_cell HB2.out]; rw [← Array.getElem?_toList]; exact hj)); (case' refine_2 => (intro u hu; rw [List.mem_singleton.1 hu]; rfl)); intro w3 ho3 hg3; have HR3 : Aside0 (w3.ownsRow w.heap.size 35 1 (.slice (some ⟨w.heap.size, 0, none⟩) (i + 1) ns.length) (i + 1) ((ns.take (i + 1)).map (encI true)) ∧ Below w.heap.size w w3) := ⟨by rw [take_succ_enc ns i n true hlt HN.out]; exact ho3, (below_alloc HR2.out.2 _).grown hg3 (by have := HR2.out.2.size; have := World.size_alloc w2 (.cells #[.int .u64 (n : Int)] 35 (0, 0)); omega) (fun k hk => by cases hk; exact Nat.le_refl _)⟩; clear ho3 hg3)
      go_roundw
      case measure => simp [intOf]; omega
      case rel => exact ⟨i + 1, by omega, by go_num, rfl, HR3⟩
    · obtain rfl : i = ns.length := by omega
      go_wp2_with fail
      go_ret2
      have h1 := HR.out.1
      rw [List.take_length] at h1
      obtain ⟨h2, h3⟩ := h1
      rcases h3 with ⟨h3, _⟩ | ⟨g, cap, cur, h3, h4, h5, h6, h7, h8, h9⟩
      · cases h3
      · cases h3
        refine ⟨w.heap.size, rfl, Nat.le_refl _, ?_, HR.out.2⟩
        rw [h5]
        have h10 : cur.toList = ns.map (encI true) := by rw [← h9]; rw [List.take_of_length_le (by rw [Array.length_toList, h8]; exact Nat.le_refl _)]
        rw [← h10]


set_option maxHeartbeats 4000000 in
set_option maxRecDepth 100000 in
theorem uints32 (ns : List Int) (hn : ns.length ≤ 1000) (hw : ∀ n ∈ ns, 0 ≤ n ∧ n < 4294967296) (x : Addr) (w : World) (hx : ∀ i, i < ns.length → w.cell? (x.add i) = some (.string ⟨(decL (ns.getD i 0).toNat).toArray⟩)) (hlt : x.block < w.heap.size) :
    Calls Tryz.prog 45 #[.slice (some x) ns.length ns.length] w fun e w' => ∃ g, e = .returned (.tuple #[.slice (some ⟨g, 0, none⟩) ns.length ns.length, .nilIface]) ∧ w.heap.size ≤ g ∧ w'.heap[g]? = some (.cells (ns.map (encI false)).toArray 66 (0, 0)) ∧ Below w.heap.size w w' := by
  have ht := Tryz.underlying149
  have h29 := Tryz.underlying29
  have HX := Aside0.mk hx
  have HL := Aside0.mk hlt
  have HW := Aside0.mk hw
  have hk : ns.length ≤ 9223372036854775807 := by omega
  obtain ⟨ti, hi, hz, hs, hb⟩ := info_split (show (Tryz.prog.info? 66).map (fun i => (i.zero, i.size, i.bytes)) = some (some (.int .u32 0), 1, 4) by kernel_rfl)
  obtain ⟨wm, hmk, hown, hgr⟩ := run_make_own (P := Tryz.prog) w w.heap.size 149 66 ti (.int .u32 0) 1 ht hi hz hs .i64 .i64 ns.length (by rw [hb]; omega) (by simp [maxLen]; omega) (Nat.le_refl _)
  have HO : Aside0 (wm.ownsRow w.heap.size 66 1 (.slice (some ⟨w.heap.size, 0, none⟩) 0 ns.length) 0 [] ∧ Below w.heap.size w wm) := ⟨hown, (Below.refl _ _).grown hgr (Nat.le_refl _) (fun k hk => by cases hk)⟩
  clear hx hlt hw hown hgr
  go_enter Tryz.func45, Tryz.ntmps45
  go_wp2_with fail
  go_loopw [4, 14] (fun v4 v14 W => ∃ i : Nat, i ≤ ns.length ∧ v14 = .int .i64 i ∧ v4 = .slice (some ⟨w.heap.size, 0, none⟩) i ns.length ∧ Aside0 (W.ownsRow w.heap.size 66 1 (.slice (some ⟨w.heap.size, 0, none⟩) i ns.length) i ((ns.take i).map (encI false)) ∧ Below w.heap.size w W)) (fun _ v14 _ => ns.length - (intOf v14).toNat)
  case atStart => exact ⟨0, by omega, rfl, rfl, HO⟩
  case round =>
    clear HO hmk
    obtain ⟨i, hi', rfl, rfl, HR⟩ := hrel
    by_cases hlt : i < ns.length
    · have hc : wr.cell? (x.add i) = some (.string ⟨(decL (ns.getD i 0).toNat).toArray⟩) := (World.cell?_of_block (HR.out.2.block _ (by rw [show (x.add i).block = x.block by unfold Addr.add; split <;> rfl]; exact HL.out))).trans (HX.out i hlt)
      have hm : ns.getD i 0 ∈ ns := by rw [List.getD_eq_getElem?_getD, List.getElem?_eq_getElem hlt]; exact List.getElem_mem hlt
      obtain ⟨n, hn0⟩ : ∃ n : Nat, ns.getD i 0 = (n : Int) := ⟨(ns.getD i 0).toNat, by have := (HW.out _ hm).1; omega⟩
      have hn1 : n < 4294967296 := by have := (HW.out _ hm).2; omega
      rw [hn0, Int.toNat_natCast] at hc
      have HN := Aside0.mk hn0
      clear hm hn0
      go_wp2_with fail
      refine (Tryz.strconv_ParseUint_10_at32_ok ⟨(decL n).toArray⟩ ?_ n ?_ wr).mono ?_
      · have := decL_len20 (n := n) (by omega)
        rw [ba_size]
        show (decL n).length ≤ _
        omega
      · exact parse_dec 32 n (by decide) (by omega)
      rintro e w2 ⟨rfl, hw2⟩
      have hb2 : Below wr.heap.size wr w2 := by
        rcases hw2 with rfl | rfl
        · exact Below.refl _ _
        · exact Lib.bytesWorld_below _ _ _
      have HR2 : Aside0 (w2.ownsRow w.heap.size 66 1 (.slice (some ⟨w.heap.size, 0, none⟩) i ns.length) i ((ns.take i).map (encI false)) ∧ Below w.heap.size w w2) := ⟨own_below HR.out.1 hb2, below_step HR.out.2 hb2⟩
      clear hw2 hb2 HR hc
      have hn2 : (n : Int) < 4294967296 := by omega
      have hn3 : (0 : Int) ≤ (n : Int) := by omega
      have HB2 := Aside0.mk (blk_new w2 (.cells #[.int .u32 (n : Int)] 66 (0, 0)))
      go_upto_region 8 with (fail)
      go_wp2_with ((with_reducible refine gate_dst (N := 30) rfl ?_); refine wpList_append_own_spare _ rfl (.tmp 26) (.tmp 29) 149 rfl w.heap.size 66 ti 1 ht hi hs w.heap.size i ns.length ((ns.take i).map (encI false)) rfl (HR2.out.1.alloc _) ⟨w2.heap.size, 0, none⟩ 1 1 [.int .u32 (n : Int)] rfl rfl ?_ ?_ (by omega) ?_; (case' refine_1 => (intro j u hj; rw [add_plain, blk_cell HB2.out]; rw [← Array.getElem?_toList]; exact hj)); (case' refine_2 => (intro u hu; rw [List.mem_singleton.1 hu]; rfl)); intro w3 ho3 hg3; have HR3 : Aside0 (w3.ownsRow w.heap.size 66 1 (.slice (some ⟨w.heap.size, 0, none⟩) (i + 1) ns.length) (i + 1) ((ns.take (i + 1)).map (encI false)) ∧ Below w.heap.size w w3) := ⟨by rw [take_succ_enc ns i n false hlt HN.out]; exact ho3, (below_alloc HR2.out.2 _).grown hg3 (by have := HR2.out.2.size; have := World.size_alloc w2 (.cells #[.int .u32 (n : Int)] 66 (0, 0)); omega) (fun k hk => by cases hk; exact Nat.le_refl _)⟩; clear ho3 hg3)
      go_roundw
      case measure => simp [intOf]; omega
      case rel => exact ⟨i + 1, by omega, by go_num, rfl, HR3⟩
    · obtain rfl : i = ns.length := by omega
      go_wp2_with fail
      go_ret2
      have h1 := HR.out.1
      rw [List.take_length] at h1
      obtain ⟨h2, h3⟩ := h1
      rcases h3 with ⟨h3, _⟩ | ⟨g, cap, cur, h3, h4, h5, h6, h7, h8, h9⟩
      · cases h3
      · cases h3
        refine ⟨w.heap.size, rfl, Nat.le_refl _, ?_, HR.out.2⟩
        rw [h5]
        have h10 : cur.toList = ns.map (encI false) := by rw [← h9]; rw [List.take_of_length_le (by rw [Array.length_toList, h8]; exact Nat.le_refl _)]
        rw [← h10]

end Go.Proofs.YtfcalbjebomgcaaGreatDoor.X

/- The lines of a text: NewLines, Scan, Bytes, Err by contract. -/
namespace Go.Proofs.YtfcalbjebomgcaaGreatDoor.X
open Go.RowKit Go.Proofs.YtfcalbjebomgcaaGreatDoorW.PrintWords Go.Proofs.YtfcalbjebomgcaaGreatDoorW.PrintLast Go.Proofs.YtfcalbjebomgcaaGreatDoorW.PrintMore Go.Proofs.YtfcalbjebomgcaaGreatDoor.Q

/-- Block b holds a reader of lines: the text that is left, the line, no error. -/
def LinesAt (b : Nat) (text line : ByteArray) (W : World) : Prop := W.heap[b]? = some (.cells #[.string text, .string line, .int .i64 65536, .nilIface] 259 (0, 0))

theorem newLines_calls (t : ByteArray) (w : World) : Calls Tryz.prog 37 #[.string t] w fun e w' => e = .returned (.pointer (some ⟨w.heap.size, 0, none⟩)) ∧ LinesAt w.heap.size t ⟨#[]⟩ w' ∧ Below w.heap.size w w' := by
  have hu := Tryz.underlying259
  go_enter Tryz.func37, Tryz.ntmps37
  go_wp2
  go_ret
  exact ⟨rfl, blk_new _ _, below_alloc (Below.refl _ _) _⟩

set_option maxRecDepth 100000 in
theorem bytes_calls (b : Nat) (text line : ByteArray) (w : World) (h : LinesAt b text line w) : Calls Tryz.prog 40 #[.pointer (some ⟨b, 0, none⟩)] w fun e w' => ∃ c, e = .returned (.slice (some ⟨w.heap.size, 0, none⟩) line.size c) ∧ w' = Lib.bytesWorld w 5 line := by
  have hu := Tryz.underlying259
  have z0 : ∀ j, w.cell? ⟨b, j, none⟩ = (#[.string text, .string line, .int .i64 65536, .nilIface] : Array Value)[j]? := fun j => blk_cell h j
  have hcv := Lib.run_convert_string_bytes (P := Tryz.prog) w 9 139 5 line Tryz.underlying9 Tryz.underlying139 Tryz.underlying5
  go_enter Tryz.func40, Tryz.ntmps40
  go_wp2_with fail
  go_ret
  exact ⟨_, rfl, rfl⟩
theorem err_calls (b : Nat) (text line : ByteArray) (w : World) (h : LinesAt b text line w) : Calls Tryz.prog 76 #[.pointer (some ⟨b, 0, none⟩)] w fun e w' => e = .returned .nilIface ∧ w' = w := by
  have hu := Tryz.underlying259
  have z0 : ∀ j, w.cell? ⟨b, j, none⟩ = (#[.string text, .string line, .int .i64 65536, .nilIface] : Array Value)[j]? := fun j => blk_cell h j
  go_enter Tryz.func76, Tryz.ntmps76
  go_wp2
  go_ret
  exact ⟨rfl, rfl⟩
theorem scan_end (b : Nat) (line : ByteArray) (w : World) (h : LinesAt b ⟨#[]⟩ line w) : Calls Tryz.prog 38 #[.pointer (some ⟨b, 0, none⟩)] w fun e w' => e = .returned (.bool false) ∧ LinesAt b ⟨#[]⟩ ⟨#[]⟩ w' ∧ Below b w w' := by
  have hu := Tryz.underlying259
  have z0 : ∀ j, w.cell? ⟨b, j, none⟩ = (#[.string ⟨#[]⟩, .string line, .int .i64 65536, .nilIface] : Array Value)[j]? := fun j => blk_cell h j
  have f0 : ∀ j, w.frozen? ⟨b, j, none⟩ = false := fun j => blk_frozen h j
  go_enter Tryz.func38, Tryz.ntmps38
  go_wp2_with fail
  go_ret
  exact ⟨rfl, blk_put h 1 _ rfl, by apply Below.setCell (Below.refl b w); exact Nat.le_refl b⟩
theorem extract_left (T : ByteArray) (L R : List UInt8) (h : T.data.toList = L ++ R) : T.extract 0 L.length = ⟨L.toArray⟩ := by
  apply ba_ext
  rw [ByteArray.data_extract, Array.toList_extract, h]
  simp
theorem extract_right (T : ByteArray) (L R : List UInt8) (c : UInt8) (h : T.data.toList = L ++ c :: R) : T.extract (L.length + 1) T.size = ⟨R.toArray⟩ := by
  have hs : T.size = L.length + 1 + R.length := by rw [ba_size, h]; simp; omega
  apply ba_ext
  rw [ByteArray.data_extract, Array.toList_extract, h, hs]
  have h2 : L.length + 1 + R.length - (L.length + 1) = R.length := by omega
  simp [h2]
theorem bt_list (T : ByteArray) (i : Nat) (h : i < T.size) : bt T i = ((T.data.toList.getD i 0).toNat : Int) := by
  have h2 : (i : Int).toNat < T.size := by simpa using h
  rw [bt, dif_pos h2]
  congr 2
  simp only [Int.toNat_natCast]
  have h3 : i < T.data.toList.length := by rw [← ba_size]; exact h
  rw [List.getD_eq_getElem?_getD, List.getElem?_eq_getElem h3]
  rfl
set_option maxHeartbeats 4000000 in
set_option maxRecDepth 100000 in
theorem scan_line (b : Nat) (T line : ByteArray) (L R : List UInt8) (hT : T.data.toList = L ++ 10 :: R) (hL : L.length < 65536) (hR : R.length ≤ 1000000) (h10 : ∀ c ∈ L, c ≠ 10 ∧ c ≠ 13) (w : World) (h : LinesAt b T line w) : Calls Tryz.prog 38 #[.pointer (some ⟨b, 0, none⟩)] w fun e w' => e = .returned (.bool true) ∧ LinesAt b ⟨R.toArray⟩ ⟨L.toArray⟩ w' ∧ Below b w w' := by
  have hu := Tryz.underlying259
  have hsz : T.size = L.length + 1 + R.length := by rw [ba_size, hT]; simp; omega
  have z0 : ∀ j, w.cell? ⟨b, j, none⟩ = (#[.string T, .string line, .int .i64 65536, .nilIface] : Array Value)[j]? := fun j => blk_cell h j
  have f0 : ∀ j, w.frozen? ⟨b, j, none⟩ = false := fun j => blk_frozen h j
  have hne : (T.toList == []) = false := by
    rw [ByteArray.toList_eq, hT]
    cases L <;> rfl
  have H1 : Aside0 (LinesAt b T ⟨#[]⟩ (w.setCell ⟨b, 1, none⟩ (.string ⟨#[]⟩)) ∧ Below b w (w.setCell ⟨b, 1, none⟩ (.string ⟨#[]⟩))) := ⟨blk_put h 1 _ rfl, by apply Below.setCell (Below.refl b w); exact Nat.le_refl b⟩
  have HT := Aside0.mk hT
  have H10 := Aside0.mk h10
  clear hT h10 h
  go_enter Tryz.func38, Tryz.ntmps38
  go_upto_region 4 with (fail)
  clear z0 f0
  generalize (w.setCell ⟨b, 1, none⟩ (.string ⟨#[]⟩)) = w1 at *
  have z1 : ∀ j, w1.cell? ⟨b, j, none⟩ = (#[.string T, .string ⟨#[]⟩, .int .i64 65536, .nilIface] : Array Value)[j]? := fun j => blk_cell H1.out.1 j
  go_wp2_with fail
  go_loopw [3] (fun v3 W => ∃ i : Nat, i ≤ L.length ∧ v3 = .int .i64 i ∧ W = w1) (fun v3 _ => L.length - (intOf v3).toNat)
  case atStart => exact ⟨0, by omega, rfl, rfl⟩
  case round =>
    obtain ⟨i, hi, rfl, rfl⟩ := hrel
    have hs1 : (i : Int) < (T.size : Int) := by omega
    have hs2 : i < T.size := by omega
    replace hsz := Aside0.mk hsz
    by_cases hlt : i < L.length
    · have hb : ∀ h : i < T.size, ((T[i]'h).toNat : Int) = bt T i := bt_at T i
      have hne10 : (bt T i != 10) = true := by
        rw [bt_list T i hs2, HT.out]
        have hc : (L ++ 10 :: R).getD i 0 = L[i] := by rw [List.getD_eq_getElem?_getD, List.getElem?_append_left hlt, List.getElem?_eq_getElem hlt]; rfl
        rw [hc]
        have := (H10.out L[i] (List.getElem_mem hlt)).1
        refine bne_iff_ne.2 (fun h => this ?_)
        exact UInt8.toNat_inj.1 (by simpa using Int.ofNat.inj h)
      generalize bt T i = c at *
      go_wp2_with fail
      all_goals exact ⟨⟨i + 1, by omega, by simp, trivial⟩, by simp [intOf]; omega⟩
    · obtain rfl : i = L.length := by omega
      have hb : ∀ h : L.length < T.size, ((T[L.length]'h).toNat : Int) = bt T L.length := bt_at T L.length
      have he10 : bt T L.length = 10 := by
        rw [bt_list T L.length hs2, HT.out]
        simp
      have hn10 : (bt T L.length != 10) = false := by rw [he10]; rfl
      clear he10
      generalize bt T L.length = c at *
      have hs3 : (L.length : Int) < 65536 := by omega
      have hs4 : (L.length : Int) ≤ (T.size : Int) := by omega
      have hs5 : ¬ (65536 : Int) ≤ (L.length : Int) := by omega
      replace hL := Aside0.mk hL
      replace hR := Aside0.mk hR
      have f1 : ∀ j, wr.frozen? ⟨b, j, none⟩ = false := fun j => blk_frozen H1.out.1 j
      go_upto_region 7 with (fail)
      clear hb hn10
      go_upto_region 11 with (fail)
      rw [extract_left T L _ HT.out]
      have H2 : Aside0 (LinesAt b T ⟨L.toArray⟩ (wr.setCell ⟨b, 1, none⟩ (.string ⟨L.toArray⟩)) ∧ Below b w (wr.setCell ⟨b, 1, none⟩ (.string ⟨L.toArray⟩))) := ⟨blk_put H1.out.1 1 _ rfl, by apply Below.setCell H1.out.2; exact Nat.le_refl b⟩
      clear z1 f1 H1
      generalize (wr.setCell ⟨b, 1, none⟩ (.string ⟨L.toArray⟩)) = w2 at *
      have z1 : ∀ j, w2.cell? ⟨b, j, none⟩ = (#[.string T, .string ⟨L.toArray⟩, .int .i64 65536, .nilIface] : Array Value)[j]? := fun j => blk_cell H2.out.1 j
      have f1 : ∀ j, w2.frozen? ⟨b, j, none⟩ = false := fun j => blk_frozen H2.out.1 j
      have hs6 : (L.length : Int) + 1 ≤ (T.size : Int) := by omega
      go_upto_region 14 with (fail)
      rw [extract_right T L R 10 HT.out]
      have H3 : Aside0 (LinesAt b ⟨R.toArray⟩ ⟨L.toArray⟩ (w2.setCell ⟨b, 0, none⟩ (.string ⟨R.toArray⟩)) ∧ Below b w (w2.setCell ⟨b, 0, none⟩ (.string ⟨R.toArray⟩))) := ⟨blk_put H2.out.1 0 _ rfl, by apply Below.setCell H2.out.2; exact Nat.le_refl b⟩
      clear z1 f1 H2 HT hs6 hs5 hs4 hs3 hsz hne hu
      generalize (w2.setCell ⟨b, 0, none⟩ (.string ⟨R.toArray⟩)) = w3 at *
      have hu := Tryz.underlying259
      have z1 : w3.cell? ⟨b, 1, none⟩ = some (.string ⟨L.toArray⟩) := (blk_cell H3.out.1 1).trans rfl
      have fin : ∀ nq, LinesAt b ⟨R.toArray⟩ ⟨L.toArray⟩ (w3.drewN nq) ∧ Below b w (w3.drewN nq) := fun nq => ⟨H3.out.1, pw_below_drewN H3.out.2 nq⟩
      replace fin := Aside0.mk fin
      cases hLL : L with
      | nil =>
        subst hLL
        go_quiet (fail)
        rename_i nq
        have H4 := Aside0.mk (fin.out nq)
        clear fin
        go_wp2_with fail
        go_ret
        exact ⟨rfl, H4.out⟩
      | cons c0 L0 =>
        have hlen : (⟨L.toArray⟩ : ByteArray).size = L0.length + 1 := by rw [ba_size, ba_list, hLL]; rfl
        have hlast : bt ⟨L.toArray⟩ L0.length ≠ 13 := by
          rw [bt_list _ _ (by omega), ba_list]
          have hlt2 : L0.length < L.length := by rw [hLL]; simp
          rw [List.getD_eq_getElem?_getD, List.getElem?_eq_getElem hlt2]
          have := (H10.out _ (List.getElem_mem hlt2)).2
          intro h
          exact this (UInt8.toNat_inj.1 (by simpa using Int.ofNat.inj h))
        have hlast2 : (bt ⟨L.toArray⟩ L0.length == 13) = false := beq_eq_false_iff_ne.2 hlast
        have hb : ∀ h : L0.length < (⟨L.toArray⟩ : ByteArray).size, (((⟨L.toArray⟩ : ByteArray)[L0.length]'h).toNat : Int) = bt ⟨L.toArray⟩ L0.length := bt_at _ L0.length
        have hl2 : (L0.length : Int) < 65536 := by have := hL.out; rw [hLL] at this; simp at this; omega
        rw [← hLL]
        clear hLL hlast
        generalize hLB : (⟨L.toArray⟩ : ByteArray) = LB at *
        replace hLB := Aside0.mk hLB
        generalize bt LB L0.length = c2 at *
        generalize L0.length = m at *
        have e1 : LB.size = m + 1 := hlen
        have e2 : (0 : Int) < (m : Int) + 1 := by omega
        have e3 : m < LB.size := by omega
        replace hlen := Aside0.mk hlen
        go_quiet (fail)
        rename_i nq
        have H4 := Aside0.mk (fin.out nq)
        clear fin
        go_wp2_with fail
        go_ret
        rw [hLB.out]
        exact ⟨rfl, H4.out⟩
end Go.Proofs.YtfcalbjebomgcaaGreatDoor.X
