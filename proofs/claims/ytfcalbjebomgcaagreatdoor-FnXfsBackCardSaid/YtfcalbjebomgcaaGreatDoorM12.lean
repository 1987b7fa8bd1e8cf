/- Numbers as texts: decimal digits; what Digits, Join and numbers make. -/
import Derived.Test.YtfcalbjebomgcaaGreatDoorM11
import Derived.Test.YtfcalbjebomgcaaGreatDoorM04
import Derived.Lib.Fields
import Derived.Lib.ParseIntB
import Derived.Ground.MpProg
import Derived.Shelf.Pu.ParseUintPublic10
import Derived.Shelf.Strings.Fields
import Derived.Test.YtfcalbjebomgcaaGreatDoorProg
set_option linter.unusedVariables false
set_option linter.unusedSimpArgs false
namespace Go.Proofs.YtfcalbjebomgcaaGreatDoor.X
open Go.RowKit Go.Proofs.YtfcalbjebomgcaaGreatDoorW.PrintWords Go.Proofs.YtfcalbjebomgcaaGreatDoorW.PrintLast Go.Proofs.YtfcalbjebomgcaaGreatDoorW.PrintMore Go.Proofs.YtfcalbjebomgcaaGreatDoor.Q

/-- The last decimal digit, as a byte. -/
def dig (n : Nat) : UInt8 := UInt8.ofNat (48 + n % 10)
/-- The decimal digits of a number, as bytes. -/
def decL (n : Nat) : List UInt8 := if n < 10 then [dig n] else decL (n / 10) ++ [dig n]
/-- Numbers with a blank between. -/
def numL : List Int → List UInt8
  | [] => []
  | a :: r => decL a.toNat ++ r.flatMap (fun x => 32 :: decL x.toNat)

theorem decL_small {n : Nat} (h : n < 10) : decL n = [dig n] := by rw [decL, if_pos h]
theorem decL_big {n : Nat} (h : ¬ n < 10) : decL n = decL (n / 10) ++ [dig n] := by rw [decL, if_neg h]
theorem decL_len : ∀ k n : Nat, n < 10 ^ (k + 1) → (decL n).length ≤ k + 1
  | 0, n, h => by rw [decL_small (by simpa using h)]; simp
  | k + 1, n, h => by
    by_cases c : n < 10
    · rw [decL_small c]; simp
    · have h' : n / 10 < 10 ^ (k + 1) := by
        rw [Nat.pow_succ] at h
        omega
      have ih := decL_len k (n / 10) h'
      rw [decL_big c, List.length_append]
      simp only [List.length_cons, List.length_nil]
      omega
theorem decL_len20 {n : Nat} (h : n < 18446744073709551616) : (decL n).length ≤ 20 := decL_len 19 n (by omega)

theorem ba_ext {a b : ByteArray} (h : a.data.toList = b.data.toList) : a = b := by
  cases a; cases b
  congr 1
  exact Array.toList_inj.1 h
theorem dapp (a b : ByteArray) : (a ++ b).data.toList = a.data.toList ++ b.data.toList := by
  obtain ⟨a⟩ := a
  obtain ⟨b⟩ := b
  rw [ByteArray.mk_append_mk]
theorem ba_size (a : ByteArray) : a.size = a.data.toList.length := by rw [Array.length_toList]; rfl
theorem ba_list (l : List UInt8) : (⟨l.toArray⟩ : ByteArray).data.toList = l := rfl

theorem digit_str (n : Nat) : strOfNums [bt (⟨#[48, 49, 50, 51, 52, 53, 54, 55, 56, 57, 97, 98, 99, 100, 101, 102]⟩ : ByteArray) ((n % 10 : Nat) : Int)] = ⟨#[dig n]⟩ := by
  unfold dig
  have h : n % 10 < 10 := Nat.mod_lt _ (by decide)
  generalize n % 10 = d at h
  have : d = 0 ∨ d = 1 ∨ d = 2 ∨ d = 3 ∨ d = 4 ∨ d = 5 ∨ d = 6 ∨ d = 7 ∨ d = 8 ∨ d = 9 := by omega
  rcases this with rfl | rfl | rfl | rfl | rfl | rfl | rfl | rfl | rfl | rfl <;> rfl

theorem digits_ok (n : Nat) : n < 18446744073709551616 → ∃ k, spec_Digits.f k n 10 = some ⟨(decL n).toArray⟩ := by
  induction n using Nat.strongRecOn with
  | ind n ih =>
    intro hn
    have e1 : Int.tmod (n : Int) 10 = ((n % 10 : Nat) : Int) := by rw [Int.tmod_eq_emod_of_nonneg (by omega)]; omega
    by_cases c : n < 10
    · refine ⟨1, ?_⟩
      unfold spec_Digits.f
      rw [if_neg (by decide), e1, if_pos (by omega), if_pos (by omega), if_pos (by omega), digit_str, decL_small c]
    · obtain ⟨k, hk⟩ := ih (n / 10) (by omega) (by omega)
      refine ⟨k + 1, ?_⟩
      have e2 : IntKind.u64.wrap (Int.tdiv (n : Int) 10) = ((n / 10 : Nat) : Int) := by
        rw [show Int.tdiv (n : Int) 10 = ((n / 10 : Nat) : Int) by rw [Int.tdiv_eq_ediv_of_nonneg (by omega)]; omega]
        show ((n / 10 : Nat) : Int) % 18446744073709551616 = _
        omega
      have hl := decL_len20 (n := n / 10) (by omega)
      unfold spec_Digits.f
      rw [if_neg (by decide), e1, if_pos (by omega), if_pos (by omega), if_neg (by omega), e2, hk]
      simp only [Option.bind_some, digit_str]
      rw [if_pos (by rw [ba_size, ba_size, ba_list]; simp; omega), decL_big c]
      exact congrArg some (ba_ext (by rw [dapp]))

theorem digits_up {a b : Int} {r : ByteArray} : ∀ m k, spec_Digits.f k a b = some r → spec_Digits.f (k + m) a b = some r
  | 0, k, h => h
  | m + 1, k, h => spec_Digits.mono a b (k + m) r (digits_up m k h)

theorem join_l0 (sep : ByteArray) (ls : List ByteArray) (hn : ls.length ≤ 9223372036854775807) (hs : ∀ x ∈ ls, sep.size + x.size ≤ 100) : ∀ m i (acc : ByteArray), i + m = ls.length → 0 < i → acc.size + m * 100 ≤ 9223372036854775807 →
    ∃ r, spec_Join.l0 (m + 1) sep acc ls (ls.length : Int) (i : Int) = some r ∧ r.data.toList = acc.data.toList ++ (ls.drop i).flatMap (fun x => sep.data.toList ++ x.data.toList)
  | 0, i, acc, h, _, _ => ⟨acc, by unfold spec_Join.l0; rw [if_neg (by omega)], by rw [List.drop_eq_nil_of_le (by omega)]; simp⟩
  | m + 1, i, acc, h, h0, hb => by
    have hi : i < ls.length := by omega
    have e : rdOf ByteArray.empty ls (i : Int) = ls[i] := by rw [rdOf, Int.toNat_natCast]; simp [List.getD_eq_getElem?_getD, hi]
    have hx := hs ls[i] (List.getElem_mem hi)
    have z1 : (acc ++ sep).size = acc.size + sep.size := by rw [ba_size, dapp, List.length_append, ba_size, ba_size]
    have z2 : ((acc ++ sep) ++ ls[i]).size = acc.size + sep.size + ls[i].size := by rw [ba_size, dapp, List.length_append, ← ba_size, ← ba_size, z1]
    obtain ⟨r, he, hr⟩ := join_l0 sep ls hn hs m (i + 1) ((acc ++ sep) ++ ls[i]) (by omega) (by omega) (by rw [z2]; omega)
    refine ⟨r, ?_, ?_⟩
    · unfold spec_Join.l0
      rw [if_pos (by omega), if_pos (by omega), if_pos (by omega), if_pos (by omega), e, if_pos (by omega), if_pos (by rw [z1]; omega)]
      rw [show wrap64 ((i : Int) + 1) = ((i + 1 : Nat) : Int) by unfold wrap64; omega]
      exact he
    · rw [hr, List.drop_eq_getElem_cons hi, List.flatMap_cons, dapp, dapp, List.append_assoc, List.append_assoc, List.append_assoc]
theorem join_ok (sep : ByteArray) (a : ByteArray) (ls : List ByteArray) (hn : ls.length ≤ 1000000) (hs : ∀ x ∈ a :: ls, sep.size + x.size ≤ 100) :
    ∃ k r, spec_Join.f k (a :: ls) sep = some r ∧ r.data.toList = a.data.toList ++ ls.flatMap (fun x => sep.data.toList ++ x.data.toList) := by
  have hl : (a :: ls).length = ls.length + 1 := rfl
  have ha := hs a List.mem_cons_self
  have z : ((⟨#[]⟩ : ByteArray) ++ a) = a := ba_ext (by rw [dapp]; rfl)
  obtain ⟨r, he, hr⟩ := join_l0 sep (a :: ls) (by omega) hs ls.length 1 a (by omega) (by omega) (by omega)
  refine ⟨ls.length + 2, r, ?_, ?_⟩
  · unfold spec_Join.f spec_Join.l0
    rw [if_pos (by omega), if_pos (by omega), if_pos (by omega), if_neg (by omega)]
    have e : rdOf ByteArray.empty (a :: ls) 0 = a := rfl
    rw [e, if_pos (by have : (⟨#[]⟩ : ByteArray).size = 0 := rfl; omega), z]
    exact (show wrap64 ((0 : Int) + 1) = ((1 : Nat) : Int) by unfold wrap64; omega) ▸ he
  · rw [hr]; rfl
theorem join_up {a : List ByteArray} {b r : ByteArray} : ∀ m k, spec_Join.f k a b = some r → spec_Join.f (k + m) a b = some r
  | 0, k, h => h
  | m + 1, k, h => spec_Join.mono a b (k + m) r (join_up m k h)
theorem numbers_up {x1 : ByteArray} {x5 : List ByteArray} {x8 : List Int} {x9 x10 : Int} {r : ByteArray} : ∀ m k, spec_numbers.l0 k x1 x5 x8 x9 x10 = some r → spec_numbers.l0 (k + m) x1 x5 x8 x9 x10 = some r
  | 0, k, h => h
  | m + 1, k, h => (spec_numbers.mono_l (k + m)) _ _ _ _ _ r (numbers_up m k h)

theorem numbers_l0 (l : List Int) (hl : l.length ≤ 1000000) (hw : ∀ n ∈ l, 0 ≤ n ∧ n < 18446744073709551616) : ∀ m i, i + m = l.length →
    ∃ k r, spec_numbers.l0 k ⟨#[32]⟩ ((l.take i).map (fun n => ⟨(decL n.toNat).toArray⟩)) l (l.length : Int) (i : Int) = some r ∧ r.data.toList = numL l
  | 0, i, h => by
    rw [List.take_of_length_le (by omega)]
    cases l with
    | nil => exact ⟨2, ⟨#[]⟩, rfl, rfl⟩
    | cons a l =>
      have hs : ∀ x ∈ ((a :: l).map (fun n : Int => (⟨(decL n.toNat).toArray⟩ : ByteArray))), (⟨#[32]⟩ : ByteArray).size + x.size ≤ 100 := by
        intro x hx
        obtain ⟨n, hn, rfl⟩ := List.mem_map.1 hx
        have := decL_len20 (n := n.toNat) (by have := hw n hn; omega)
        rw [ba_size (⟨(decL n.toNat).toArray⟩ : ByteArray), ba_list, show (⟨#[32]⟩ : ByteArray).size = 1 from rfl]
        omega
      obtain ⟨k, r, he, hr⟩ := join_ok ⟨#[32]⟩ ⟨(decL a.toNat).toArray⟩ (l.map (fun n : Int => (⟨(decL n.toNat).toArray⟩ : ByteArray))) (by rw [List.length_map]; simp at hl; omega) hs
      refine ⟨k + 1, r, ?_, ?_⟩
      · unfold spec_numbers.l0
        rw [if_neg (by omega), List.map_cons, he]
        rfl
      · rw [hr, List.flatMap_map]; rfl
  | m + 1, i, h => by
    obtain ⟨k, r, he, hr⟩ := numbers_l0 l hl hw m (i + 1) (by omega)
    have hi : i < l.length := by omega
    have hwi := hw l[i] (List.getElem_mem hi)
    have e : rd l (i : Int) = l[i] := by rw [rd, Int.toNat_natCast]; simp [List.getD_eq_getElem?_getD, hi]
    obtain ⟨k2, hd⟩ := digits_ok l[i].toNat (by omega)
    have hd' : spec_Text.f (k2 + k) l[i] = some ⟨(decL l[i].toNat).toArray⟩ := by
      unfold spec_Text.f
      have hx : (l[i].toNat : Int) = l[i] := by omega
      rw [hx] at hd
      rw [digits_up k k2 hd]; rfl
    refine ⟨k + k2 + 1, r, ?_, hr⟩
    have he' := numbers_up k2 k he
    unfold spec_numbers.l0
    rw [if_pos (by omega), if_pos (by omega), if_pos (by omega), e, Nat.add_comm k k2, hd']
    simp only [Option.bind_some]
    rw [if_pos (by rw [List.length_map, List.length_take]; omega)]
    rw [show wrap64 ((i : Int) + 1) = ((i + 1 : Nat) : Int) by unfold wrap64; omega]
    rw [List.take_succ_eq_append_getElem hi, List.map_append, Nat.add_comm k k2] at he'
    exact he'
/-- What numbers answers. -/
theorem numbersX (l : List Int) (A : Option Addr) (c : Nat) (w : World) (hr : (Kd.int .u64).C w A l.length l) (hc : l.length ≤ c) (hl : l.length ≤ 1000000) (hw : ∀ n ∈ l, 0 ≤ n ∧ n < 18446744073709551616) :
    Calls Tryz.prog 14 #[.slice A l.length c, .string ⟨#[32]⟩] w fun e w' => e = .returned (.string ⟨(numL l).toArray⟩) ∧ Below w.heap.size w w' := by
  obtain ⟨k, r, he, hr'⟩ := numbers_l0 l hl hw l.length 0 (by omega)
  have : r = ⟨(numL l).toArray⟩ := ba_ext hr'
  exact spec_numbers.calls k A c l ⟨#[32]⟩ _ w hr hc (this ▸ he)

end Go.Proofs.YtfcalbjebomgcaaGreatDoor.X

/- XfsPrint by contract: the text of rows. -/
namespace Go.Proofs.YtfcalbjebomgcaaGreatDoor.X
open Go.RowKit Go.Proofs.YtfcalbjebomgcaaGreatDoorW.PrintWords Go.Proofs.YtfcalbjebomgcaaGreatDoorW.PrintLast Go.Proofs.YtfcalbjebomgcaaGreatDoorW.PrintMore Go.Proofs.YtfcalbjebomgcaaGreatDoor.Q

/-- A row as a line. -/
def lineL (r : S31) : List UInt8 := r.f0.data.toList ++ (32 :: (numL r.f1 ++ [10]))
/-- Rows as a text. -/
def textL (l : List S31) : List UInt8 := l.flatMap lineL
/-- The numbers of rows are of 64 bits. -/
def Wf31 (l : List S31) : Prop := ∀ r ∈ l, ∀ n ∈ r.f1, 0 ≤ n ∧ n < 18446744073709551616

theorem groups_small : ∀ g ∈ xfsGroups, g.f0.toList.length ≤ 12 ∧ g.f2.length ≤ 15 := by
  have h : xfsGroups.all (fun g => decide (g.f0.toList.length ≤ 12 ∧ g.f2.length ≤ 15)) = true := by decide +kernel
  intro g hg
  exact of_decide_eq_true (List.all_eq_true.1 h g hg)
theorem fine_small (r : S31) (h : fineRow r = true) : r.f0.data.toList.length ≤ 12 ∧ r.f1.length ≤ 15 := by
  unfold fineRow at h
  cases hg : groupOf xfsGroups r.f0 with
  | none => rw [hg] at h; cases h
  | some g =>
    rw [hg] at h
    have hm := List.mem_of_find?_eq_some hg
    have hs := groups_small g hm
    have he : g.f0.toList = r.f0.toList := beq_iff_eq.1 (List.find?_some (p := fun g : S52 => g.f0.toList == r.f0.toList) hg)
    simp only [Bool.and_eq_true] at h
    have hl := beq_iff_eq.1 h.1.2.1
    rw [he, ByteArray.toList_eq] at hs
    exact ⟨hs.1, by omega⟩
theorem numL_len (l : List Int) (hw : ∀ n ∈ l, 0 ≤ n ∧ n < 18446744073709551616) : (numL l).length ≤ 21 * l.length := by
  cases l with
  | nil => simp [numL]
  | cons a r =>
    have ha := decL_len20 (n := a.toNat) (by have := hw a List.mem_cons_self; omega)
    have hr : ∀ r : List Int, (∀ n ∈ r, 0 ≤ n ∧ n < 18446744073709551616) → (r.flatMap (fun x => 32 :: decL x.toNat)).length ≤ 21 * r.length := by
      intro r hr
      induction r with
      | nil => simp
      | cons b r ih =>
        have hb := decL_len20 (n := b.toNat) (by have := hr b List.mem_cons_self; omega)
        have := ih (fun n hn => hr n (List.mem_cons_of_mem _ hn))
        simp only [List.flatMap_cons, List.length_append, List.length_cons] at *
        omega
    have := hr r (fun n hn => hw n (List.mem_cons_of_mem _ hn))
    simp only [numL, List.length_append, List.length_cons] at *
    omega
theorem lineL_len (r : S31) (h : fineRow r = true) (hw : ∀ n ∈ r.f1, 0 ≤ n ∧ n < 18446744073709551616) : (lineL r).length ≤ 400 := by
  have := fine_small r h
  have := numL_len r.f1 hw
  simp only [lineL, List.length_append, List.length_cons, List.length_nil]
  omega
theorem textL_len : ∀ l : List S31, (∀ r ∈ l, fineRow r = true) → Wf31 l → (textL l).length ≤ 400 * l.length
  | [], _, _ => by simp [textL]
  | r :: l, h, hw => by
    have h1 := lineL_len r (h r List.mem_cons_self) (hw r List.mem_cons_self)
    have h2 := textL_len l (fun r hr => h r (List.mem_cons_of_mem _ hr)) (fun r hr => hw r (List.mem_cons_of_mem _ hr))
    simp only [textL, List.flatMap_cons, List.length_append, List.length_cons] at *
    omega
theorem textL_take (l : List S31) (i : Nat) (hi : i < l.length) : textL (l.take (i + 1)) = textL (l.take i) ++ lineL (l.getD i z31) := by
  rw [List.take_succ_eq_append_getElem hi, textL, List.flatMap_append]
  simp [textL, List.getD_eq_getElem?_getD, hi]

theorem keep3 {g : Nat} {s : ByteArray} {v1 v2 : Value} {w W : World} (h : KeepS g (.cells #[.string s, v1, v2] 31 (0, 0)) w W) : W.cell? ⟨g, 0, none⟩ = some (.string s) ∧ W.cell? ⟨g, 1, none⟩ = some v1 ∧ Aside0 (KeepS g (.cells #[.string s, v1, v2] 31 (0, 0)) w W) :=
  ⟨(blk_cell h.1 0).trans rfl, (blk_cell h.1 1).trans rfl, ⟨h⟩⟩

set_option maxHeartbeats 8000000 in
set_option maxRecDepth 100000 in
theorem xfsPrint_calls (l : List S31) (A : Option Addr) (c : Nat) (w : World) (hr : Kd.C k31 w A l.length l) (hc : l.length ≤ c) (hw : Wf31 l) (hl : l.length ≤ 1000) :
    Calls Tryz.prog 6 #[.slice A l.length c] w fun e w' => Below w.heap.size w w' ∧ (e = .returned (.tuple #[.string ⟨#[]⟩, .int .i64 2]) ∨ (FineRows l ∧ e = .returned (.tuple #[.string ⟨(textL l).toArray⟩, .int .i64 1]))) := by
  have HR := Aside0.mk hr
  have HLC := Aside0.mk hc
  have HW := Aside0.mk hw
  have hm : l.length ≤ 9223372036854775807 := hr.2.1
  have hu31 := Tryz.underlying31
  clear hr hc hw
  go_enter Tryz.func6, Tryz.ntmps6
  go_wp2_with fail
  refine (xfsFine_calls l A c _ HR.out HLC.out).mono ?_
  rintro e w1 ⟨b, rfl, hb, hB⟩
  have HBb := Aside0.mk hb
  have HB1 := Aside0.mk hB
  clear hb hB
  cases b
  · go_wp2_with fail
    go_ret2
    exact ⟨HB1.out, .inl rfl⟩
  · have HF := Aside0.mk (HBb.out rfl)
    clear HBb
    go_wp2_with fail
    go_loopw [4, 12] (fun v4 v12 w' => ∃ (i : Nat) (acc : ByteArray), i ≤ l.length ∧ v4 = .string acc ∧ v12 = .int .i64 i ∧ Aside0 (acc.data.toList = textL (l.take i)) ∧ Aside0 (Below w.heap.size w w')) (fun _ v12 _ => l.length - (intOf v12).toNat)
    case atStart => exact ⟨0, ⟨#[]⟩, Nat.zero_le _, rfl, rfl, ⟨rfl⟩, HB1⟩
    case round =>
      clear HB1
      obtain ⟨i, acc, hi, rfl, rfl, HT, HB⟩ := hrel
      by_cases hlt : i < l.length
      · obtain ⟨ad, A1, c1, A2, c2, e, h0, h1, h2, hl1, hC1, hl2, hC2⟩ := at_T31 HR.out (i : Int) (Int.natCast_nonneg _) (by omega)
        cases e
        rw [Int.toNat_natCast] at h0 h1 h2
        have e0 : rd_T31 l (i : Int) = l.getD i z31 := by rw [rd_T31, Int.toNat_natCast]
        rw [e0] at h0 h1 h2 hl1 hC1 hl2 hC2
        have hmem : l.getD i z31 ∈ l := by rw [List.getD_eq_getElem?_getD, List.getElem?_eq_getElem hlt]; exact List.getElem_mem hlt
        have HWr := Aside0.mk (HW.out _ hmem)
        have HFr := Aside0.mk (HF.out.1 i hlt)
        clear hmem
        generalize hrr : l.getD i z31 = r at *
        replace hrr := Aside0.mk hrr
        replace h0 := (HB.out.cell (World.block_lt_of_cell? w _ h0)).trans h0
        replace h1 := (HB.out.cell (World.block_lt_of_cell? w _ h1)).trans h1
        replace h2 := (HB.out.cell (World.block_lt_of_cell? w _ h2)).trans h2
        have HC1 := Aside0.mk hC1
        have HL1 := Aside0.mk hl1
        clear hC1 hl1 hC2 hl2 e0
        go_upto_region 7 with (fail)
        have BK0 := blk_new wr (.cells #[.string r.f0, .slice A1 r.f1.length c1, .slice A2 r.f2.length c2] 31 (0, 0))
        have HB0 := below_alloc HB.out (.cells #[.string r.f0, .slice A1 r.f1.length c1, .slice A2 r.f2.length c2] 31 (0, 0))
        clear h0 h1 h2 HB
        generalize wr.alloc (.cells #[.string r.f0, .slice A1 r.f1.length c1, .slice A2 r.f2.length c2] 31 (0, 0)) = W1 at *
        generalize wr.heap.size = g at *
        have HK := Aside0.mk (show KeepS g (.cells #[.string r.f0, .slice A1 r.f1.length c1, .slice A2 r.f2.length c2] 31 (0, 0)) w W1 from ⟨BK0, HB0⟩)
        clear BK0 HB0
        have k0 : W1.cell? ⟨g, 0, none⟩ = some (.string r.f0) := (keep3 HK.out).1
        have k1 : W1.cell? ⟨g, 1, none⟩ = some (.slice A1 r.f1.length c1) := (keep3 HK.out).2.1
        obtain ⟨t, ht⟩ : ∃ t, Aside0 (t = (⟨(numL r.f1).toArray⟩ : ByteArray)) := ⟨_, ⟨rfl⟩⟩
        have HS : Aside0 (r.f0.size ≤ 400 ∧ r.f0.size + t.size ≤ 400 ∧ acc.size ≤ 400000) := by
          refine ⟨?_, ?_, ?_⟩
          · have := (fine_small r HFr.out).1; rw [ba_size]; omega
          · have h1 := (fine_small r HFr.out).1
            have h2 := numL_len r.f1 HWr.out
            have h3 := (fine_small r HFr.out).2
            have e1 : t.size = (numL r.f1).length := by rw [ht.out, ba_size]
            have e2 : r.f0.size = r.f0.data.toList.length := ba_size _
            rw [e1, e2]; omega
          · rw [ba_size, HT.out]
            have := textL_len (l.take i) (fun q hq => by
              obtain ⟨j, hj, rfl⟩ := List.mem_iff_getElem.1 hq
              rw [List.length_take] at hj
              have hj' : j < l.length := by omega
              have := HF.out.1 j hj'
              rw [List.getElem_take]
              simpa [List.getD_eq_getElem?_getD, hj'] using this) (fun q hq => HW.out q (List.mem_of_mem_take hq))
            rw [List.length_take] at this
            omega
        have q0 : r.f0.size + 1 ≤ 9223372036854775807 := by have := HS.out; omega
        have q0n := eq_false (Nat.not_lt.2 q0)
        replace q0 := eq_true q0
        have q1 : r.f0.size + 1 + t.size ≤ 9223372036854775807 := by have := HS.out; omega
        have q1n := eq_false (Nat.not_lt.2 q1)
        replace q1 := eq_true q1
        have q2 : r.f0.size + 1 + t.size + 1 ≤ 9223372036854775807 := by have := HS.out; omega
        have q2n := eq_false (Nat.not_lt.2 q2)
        replace q2 := eq_true q2
        have q3 : acc.size + (r.f0.size + 1 + t.size + 1) ≤ 9223372036854775807 := by have := HS.out; omega
        have q3n := eq_false (Nat.not_lt.2 q3)
        replace q3 := eq_true q3
        go_region_held3 (fun w' => w'.cell? ⟨g, 0, none⟩ = some (.string r.f0) ∧ w'.cell? ⟨g, 1, none⟩ = some (.slice A1 r.f1.length c1) ∧ Aside0 (KeepS g (.cells #[.string r.f0, .slice A1 r.f1.length c1, .slice A2 r.f2.length c2] 31 (0, 0)) w w')) (first | exact keep3 HK.out.drew | assumption | exact keep3 HK2.out) (first | (go_at_call 14; refine (numbersX r.f1 A1 c1 _ ?_ HL1.out ?_ HWr.out).mono ?_; (exact Kd.C_below HC1.out (by first | exact HK.out.drew.2 | assumption)); (have h3 := (fine_small r HFr.out).2; omega); rintro e w' ⟨he, hB⟩; rw [← ht.out] at he; subst he; have HK2 := Aside0.mk (HK.out.drew.below hB)))
        go_wp2_with fail
        go_roundw
        case measure => simp [intOf]; omega
        case rel =>
          refine ⟨i + 1, acc ++ (((r.f0 ++ ⟨#[32]⟩) ++ t) ++ ⟨#[10]⟩), by omega, rfl, by go_num, ⟨?_⟩, ⟨HK2.out.2⟩⟩
          rw [textL_take l i hlt, hrr.out, dapp, dapp, dapp, dapp, HT.out, ht.out]
          simp [lineL]
      · go_wp2_with fail
        go_ret2
        refine ⟨HB.out, .inr ⟨HF.out, ?_⟩⟩
        have e : acc = ⟨(textL l).toArray⟩ := ba_ext (by rw [HT.out, List.take_of_length_le (by omega)])
        rw [e]; rfl
end Go.Proofs.YtfcalbjebomgcaaGreatDoor.X

/- What is read back of a line that was written from a row: its fields are the row's name and its numbers' digits; each number's digits are read as the number. -/
namespace Go.Proofs.YtfcalbjebomgcaaGreatDoor.X
open Go.RowKit Go.Proofs.YtfcalbjebomgcaaGreatDoorW.PrintWords Go.Proofs.YtfcalbjebomgcaaGreatDoorW.PrintLast Go.Proofs.YtfcalbjebomgcaaGreatDoorW.PrintMore Go.Proofs.YtfcalbjebomgcaaGreatDoor.Q

theorem dig_nat (n : Nat) : (dig n).toNat = 48 + n % 10 := by
  have h : n % 10 < 10 := Nat.mod_lt _ (by omega)
  rw [dig, UInt8.toNat_ofNat']
  omega
theorem dig_sp (n : Nat) : Lib.isSp (dig n) = false :=
  (by decide : ∀ k : Fin 10, Lib.isSp (UInt8.ofNat (48 + k.val)) = false) ⟨n % 10, Nat.mod_lt _ (by omega)⟩
theorem decL_all {p : UInt8 → Prop} (hp : ∀ n, p (dig n)) (n : Nat) : ∀ b ∈ decL n, p b := by
  induction n using Nat.strongRecOn with
  | _ n ih =>
    by_cases h : n < 10
    · rw [decL_small h]; intro b hb; rw [List.mem_singleton.1 hb]; exact hp n
    · rw [decL_big h]
      intro b hb
      rcases List.mem_append.1 hb with hb | hb
      · exact ih (n / 10) (by omega) b hb
      · rw [List.mem_singleton.1 hb]; exact hp n
theorem decL_ne (n : Nat) : decL n ≠ [] := by
  by_cases h : n < 10
  · rw [decL_small h]; simp
  · rw [decL_big h]; simp

theorem fieldsGo_app (l r : List UInt8) (hl : ∀ b ∈ l, Lib.isSp b = false) : ∀ cur, Lib.fieldsGo cur (l ++ r) = Lib.fieldsGo (cur ++ l) r := by
  induction l with
  | nil => intro cur; simp
  | cons b l ih =>
    intro cur
    rw [List.cons_append, Lib.fieldsGo_more _ _ _ (hl b List.mem_cons_self), ih (fun x hx => hl x (List.mem_cons_of_mem _ hx))]
    simp
theorem fieldsGo_nums : ∀ (l : List Int) (cur : List UInt8), cur ≠ [] → Lib.fieldsGo cur (l.flatMap (fun x => 32 :: decL x.toNat)) = cur :: l.map (fun n => decL n.toNat)
  | [], cur, h => by
    cases cur with
    | nil => exact absurd rfl h
    | cons _ _ => rfl
  | a :: l, cur, h => by
    rw [List.flatMap_cons, List.cons_append, Lib.fieldsGo_end _ _ _ (by decide) h, fieldsGo_app _ _ (decL_all dig_sp _), List.nil_append, fieldsGo_nums l _ (decL_ne _)]
    rfl
theorem fieldsGo_numL (l : List Int) : Lib.fieldsGo [] (numL l) = l.map (fun n => decL n.toNat) := by
  cases l with
  | nil => rfl
  | cons a l =>
    rw [numL, fieldsGo_app _ _ (decL_all dig_sp _), List.nil_append, fieldsGo_nums l _ (decL_ne _)]
    rfl
/-- The bytes of a line before its end. -/
def lineB (r : S31) : List UInt8 := r.f0.data.toList ++ (32 :: numL r.f1)
theorem lineL_eq (r : S31) : lineL r = lineB r ++ [10] := by simp [lineL, lineB]
theorem fields_line (r : S31) (h0 : r.f0.data.toList ≠ []) (hs : ∀ b ∈ r.f0.data.toList, Lib.isSp b = false) : Lib.fields (lineB r) = r.f0.data.toList :: r.f1.map (fun n => decL n.toNat) := by
  rw [Lib.fields, lineB, fieldsGo_app _ _ hs, List.nil_append, Lib.fieldsGo_end _ _ _ (by decide) h0, fieldsGo_numL]

theorem parseM_app (M : Nat) : ∀ (l : List UInt8) (acc u : Nat) (r : List UInt8), Lib.parseUintM M acc l = .ok u → Lib.parseUintM M acc (l ++ r) = Lib.parseUintM M u r
  | [], acc, u, r, h => by
    simp only [Lib.parseUintM] at h
    cases h; rfl
  | c :: l, acc, u, r, h => by
    rw [List.cons_append]
    rw [Lib.parseUintM] at h ⊢
    by_cases h1 : 48 ≤ c.toNat ∧ c.toNat ≤ 57
    · by_cases h2 : 1844674407370955162 ≤ acc
      · rw [if_pos h1, if_pos h2] at h; cases h
      · by_cases h3 : M < acc * 10 + (c.toNat - 48)
        · rw [if_pos h1, if_neg h2, if_pos h3] at h; cases h
        · rw [if_pos h1, if_neg h2, if_neg h3] at h
          rw [if_pos h1, if_neg h2, if_neg h3]
          exact parseM_app M l _ u r h
    · rw [if_neg h1] at h; cases h
theorem parseM_dec (M : Nat) (hM : M ≤ 18446744073709551615) : ∀ n, n ≤ M → Lib.parseUintM M 0 (decL n) = .ok n := by
  intro n
  induction n using Nat.strongRecOn with
  | _ n ih =>
    intro hn
    have h2 := dig_nat n
    have h3 : n % 10 < 10 := Nat.mod_lt _ (by omega)
    by_cases h : n < 10
    · rw [decL_small h]
      simp only [Lib.parseUintM, h2]
      rw [if_pos (by omega), if_neg (by omega), if_neg (by omega)]
      congr 1; omega
    · rw [decL_big h, parseM_app M _ _ _ _ (ih (n / 10) (by omega) (by omega))]
      simp only [Lib.parseUintM, h2]
      rw [if_pos (by omega), if_neg (by omega), if_neg (by omega)]
      congr 1; omega
theorem parse_dec (B n : Nat) (hB : 2 ^ B - 1 ≤ 18446744073709551615) (hn : n ≤ 2 ^ B - 1) : Lib.parseUintB B (decL n) = .ok n := by
  rw [Lib.parseUintB, if_neg (decL_ne n), parseM_dec _ hB n hn]

theorem groups_name : ∀ g ∈ xfsGroups, g.f0.data.toList ≠ [] ∧ ∀ b ∈ g.f0.data.toList, Lib.isSp b = false ∧ b.toNat < 128 ∧ b ≠ 10 ∧ b ≠ 13 := by
  decide +kernel
theorem groupOf_eq {gs : List S52} {n : ByteArray} {g : S52} (h : groupOf gs n = some g) : g ∈ gs ∧ g.f0 = n := by
  have h1 := List.find?_some h
  have h2 : g.f0.toList = n.toList := by simpa using h1
  refine ⟨List.mem_of_find?_eq_some h, ?_⟩
  exact ba_ext (by rw [ByteArray.toList_eq, ByteArray.toList_eq] at h2; exact h2)
theorem dec_ascii (n : Nat) : ∀ b ∈ decL n, b.toNat < 128 ∧ b ≠ 10 ∧ b ≠ 13 := decL_all (fun n => by
  have h2 := dig_nat n
  have h3 : n % 10 < 10 := Nat.mod_lt _ (by omega)
  refine ⟨by omega, fun h => ?_, fun h => ?_⟩
  · rw [h] at h2; simp at h2; omega
  · rw [h] at h2; simp at h2; omega) n
theorem numL_ascii (l : List Int) : ∀ b ∈ numL l, b.toNat < 128 ∧ b ≠ 10 ∧ b ≠ 13 := by
  cases l with
  | nil => intro b hb; simp [numL] at hb
  | cons a l =>
    intro b hb
    rw [numL] at hb
    rcases List.mem_append.1 hb with hb | hb
    · exact dec_ascii _ b hb
    · obtain ⟨x, _, hb⟩ := List.mem_flatMap.1 hb
      rcases List.mem_cons.1 hb with rfl | hb
      · decide
      · exact dec_ascii _ b hb
theorem fine_name (r : S31) (h : fineRow r = true) : r.f0.data.toList ≠ [] ∧ ∀ b ∈ r.f0.data.toList, Lib.isSp b = false ∧ b.toNat < 128 ∧ b ≠ 10 ∧ b ≠ 13 := by
  unfold fineRow at h
  cases hg : groupOf xfsGroups r.f0 with
  | none => rw [hg] at h; cases h
  | some g =>
    obtain ⟨h1, h2⟩ := groupOf_eq hg
    rw [← h2]
    exact groups_name g h1
theorem lineB_ascii (r : S31) (h : fineRow r = true) : ∀ b ∈ lineB r, b.toNat < 128 ∧ b ≠ 10 ∧ b ≠ 13 := by
  intro b hb
  rw [lineB] at hb
  rcases List.mem_append.1 hb with hb | hb
  · exact ((fine_name r h).2 b hb).2
  · rcases List.mem_cons.1 hb with rfl | hb
    · decide
    · exact numL_ascii _ b hb
theorem fields_fine (r : S31) (h : fineRow r = true) : Lib.fields (lineB r) = r.f0.data.toList :: r.f1.map (fun n => decL n.toNat) :=
  fields_line r (fine_name r h).1 fun b hb => ((fine_name r h).2 b hb).1
end Go.Proofs.YtfcalbjebomgcaaGreatDoor.X

/-
  DERIVED: THE SHELF's CONTRACTS AT THIS DUMP, IN PLAIN WORDS (tools/lay-plain.mjs out of 'TryzShelfB.lean', which tools/lay-shelf.mjs wrote): THE SAME DECLARATIONS UNDER THE SAME NAMES: 'import', 'namespace', 'open', 'def', 'theorem' AND NOTHING ELSE: no command of the shelf's: FOR A HAND-IN. Each laying: the table of numbers ('.._ren') and one theorem, a field a fact of the dump's own or the kernel's comparison; each contract: ONE APPLICATION.
-/
namespace Go.Proofs
open Go.Shelf
def Tryz.laysPu14_ren : Go.Shelf.Ren := ⟨fun | 14 => 121 | 16 => 127 | 17 => 128 | 19 => 132 | 20 => 133 | 21 => 134 | 22 => 135 | 23 => 136 | 24 => 137 | 25 => 139 | 27 => 140 | 26 => 118 | 28 => 142 | 29 => 145 | 30 => 159 | 31 => 160 | 32 => 161 | 33 => 162 | 35 => 166 | 34 => 177 | 36 => 170 | 37 => 178 | 38 => 179 | 39 => 184 | 40 => 185 | n => n, fun | 9 => 9 | 3 => 3 | 22 => 35 | 24 => 59 | 25 => 264 | 4 => 4 | 34 => 294 | 5 => 5 | 36 => 296 | 37 => 139 | 0 => 0 | 39 => 298 | 21 => 21 | 44 => 305 | 47 => 309 | 50 => 273 | 48 => 271 | 2 => 2 | 52 => 339 | 55 => 342 | 59 => 363 | 60 => 66 | 20 => 20 | 61 => 364 | 65 => 380 | 66 => 381 | 67 => 382 | n => n, fun | 0 => 3 | 1 => 4 | 2 => 11 | 3 => 14 | 4 => 15 | n => n⟩
theorem Tryz.laysPu14 : Go.Proofs.LaysPu.n14 Tryz.prog Tryz.laysPu14_ren := {
  mixed := by kernel_rfl
  f14 := Tryz.func121.trans (congrArg some (by kernel_rfl))
  f16 := Tryz.func127.trans (congrArg some (by kernel_rfl))
  f17 := Tryz.func128.trans (congrArg some (by kernel_rfl))
  f19 := Tryz.func132.trans (congrArg some (by kernel_rfl))
  f20 := Tryz.func133.trans (congrArg some (by kernel_rfl))
  f21 := Tryz.func134.trans (congrArg some (by kernel_rfl))
  f22 := Tryz.func135.trans (congrArg some (by kernel_rfl))
  f23 := Tryz.func136.trans (congrArg some (by kernel_rfl))
  f24 := Tryz.func137.trans (congrArg some (by kernel_rfl))
  f25 := Tryz.func139.trans (congrArg some (by kernel_rfl))
  f26 := Tryz.func118.trans (congrArg some (by kernel_rfl))
  f27 := Tryz.func140.trans (congrArg some (by kernel_rfl))
  f28 := Tryz.func142.trans (congrArg some (by kernel_rfl))
  f29 := Tryz.func145.trans (congrArg some (by kernel_rfl))
  f30 := Tryz.func159.trans (congrArg some (by kernel_rfl))
  f31 := Tryz.func160.trans (congrArg some (by kernel_rfl))
  f32 := Tryz.func161.trans (congrArg some (by kernel_rfl))
  f33 := Tryz.func162.trans (congrArg some (by kernel_rfl))
  f34 := Tryz.func177.trans (congrArg some (by kernel_rfl))
  f35 := Tryz.func166.trans (congrArg some (by kernel_rfl))
  f36 := Tryz.func170.trans (congrArg some (by kernel_rfl))
  f37 := Tryz.func178.trans (congrArg some (by kernel_rfl))
  f38 := Tryz.func179.trans (congrArg some (by kernel_rfl))
  f39 := Tryz.func184.trans (congrArg some (by kernel_rfl))
  f40 := Tryz.func185.trans (congrArg some (by kernel_rfl))
  t0 := Tryz.underlying0
  a0 := Tryz.isAgg0
  z0 := Tryz.sizeOf0
  v0 := Tryz.zeroValue0
  i0 := by kernel_rfl
  t2 := Tryz.underlying2
  a2 := Tryz.isAgg2
  z2 := Tryz.sizeOf2
  v2 := Tryz.zeroValue2
  i2 := by kernel_rfl
  t3 := Tryz.underlying3
  a3 := Tryz.isAgg3
  z3 := Tryz.sizeOf3
  v3 := Tryz.zeroValue3
  i3 := by kernel_rfl
  t4 := Tryz.underlying4
  a4 := Tryz.isAgg4
  z4 := Tryz.sizeOf4
  v4 := Tryz.zeroValue4
  i4 := by kernel_rfl
  t5 := Tryz.underlying5
  a5 := Tryz.isAgg5
  z5 := Tryz.sizeOf5
  v5 := Tryz.zeroValue5
  i5 := by kernel_rfl
  t9 := Tryz.underlying9
  a9 := Tryz.isAgg9
  z9 := Tryz.sizeOf9
  v9 := Tryz.zeroValue9
  i9 := by kernel_rfl
  t20 := Tryz.underlying20
  a20 := Tryz.isAgg20
  z20 := Tryz.sizeOf20
  v20 := Tryz.zeroValue20
  i20 := by kernel_rfl
  t21 := Tryz.underlying21
  a21 := Tryz.isAgg21
  z21 := Tryz.sizeOf21
  v21 := Tryz.zeroValue21
  i21 := by kernel_rfl
  t22 := Tryz.underlying35
  a22 := Tryz.isAgg35
  z22 := Tryz.sizeOf35
  v22 := Tryz.zeroValue35
  i22 := by kernel_rfl
  t24 := Tryz.underlying59
  a24 := Tryz.isAgg59
  z24 := Tryz.sizeOf59
  v24 := Tryz.zeroValue59
  i24 := by kernel_rfl
  t25 := Tryz.underlying264
  a25 := Tryz.isAgg264
  z25 := Tryz.sizeOf264
  v25 := Tryz.zeroValue264
  i25 := by kernel_rfl
  t34 := Tryz.underlying294
  a34 := Tryz.isAgg294
  z34 := Tryz.sizeOf294
  v34 := Tryz.zeroValue294
  i34 := by kernel_rfl
  c34 := by kernel_rfl
  t36 := Tryz.underlying296
  a36 := Tryz.isAgg296
  z36 := Tryz.sizeOf296
  v36 := Tryz.zeroValue296
  i36 := by kernel_rfl
  t37 := Tryz.underlying139
  a37 := Tryz.isAgg139
  z37 := Tryz.sizeOf139
  v37 := Tryz.zeroValue139
  i37 := by kernel_rfl
  t39 := Tryz.underlying298
  a39 := Tryz.isAgg298
  z39 := Tryz.sizeOf298
  v39 := Tryz.zeroValue298
  i39 := by kernel_rfl
  t44 := Tryz.underlying305
  a44 := Tryz.isAgg305
  z44 := Tryz.sizeOf305
  v44 := Tryz.zeroValue305
  i44 := by kernel_rfl
  t47 := Tryz.underlying309
  a47 := Tryz.isAgg309
  z47 := Tryz.sizeOf309
  v47 := Tryz.zeroValue309
  i47 := by kernel_rfl
  t48 := Tryz.underlying271
  a48 := Tryz.isAgg271
  z48 := Tryz.sizeOf271
  v48 := Tryz.zeroValue271
  i48 := by kernel_rfl
  t50 := Tryz.underlying273
  a50 := Tryz.isAgg273
  z50 := Tryz.sizeOf273
  v50 := Tryz.zeroValue273
  i50 := by kernel_rfl
  t52 := Tryz.underlying339
  a52 := Tryz.isAgg339
  z52 := Tryz.sizeOf339
  v52 := Tryz.zeroValue339
  i52 := by kernel_rfl
  t55 := Tryz.underlying342
  a55 := Tryz.isAgg342
  z55 := Tryz.sizeOf342
  v55 := Tryz.zeroValue342
  i55 := by kernel_rfl
  t59 := Tryz.underlying363
  a59 := Tryz.isAgg363
  z59 := Tryz.sizeOf363
  v59 := Tryz.zeroValue363
  i59 := by kernel_rfl
  t60 := Tryz.underlying66
  a60 := Tryz.isAgg66
  z60 := Tryz.sizeOf66
  v60 := Tryz.zeroValue66
  i60 := by kernel_rfl
  t61 := Tryz.underlying364
  a61 := Tryz.isAgg364
  z61 := Tryz.sizeOf364
  t65 := Tryz.underlying380
  a65 := Tryz.isAgg380
  z65 := Tryz.sizeOf380
  v65 := Tryz.zeroValue380
  i65 := by kernel_rfl
  t66 := Tryz.underlying381
  a66 := Tryz.isAgg381
  z66 := Tryz.sizeOf381
  v66 := Tryz.zeroValue381
  i66 := by kernel_rfl
  t67 := Tryz.underlying382
  a67 := Tryz.isAgg382
  z67 := Tryz.sizeOf382
  v67 := Tryz.zeroValue382
  i67 := by kernel_rfl
  g0 := by kernel_rfl
  m0 := by kernel_rfl
  g1 := by kernel_rfl
  m1 := by kernel_rfl
  g2 := by kernel_rfl
  m2 := by kernel_rfl
  g3 := by kernel_rfl
  m3 := by kernel_rfl
  g4 := by kernel_rfl
  m4 := by kernel_rfl }
open Go.RowKit in
/-- strconv.ParseUint(s, 10, 64), AT EVERY STRING THAT SPELLS A uint64 ('Lib.parseUintB 64 s.data.toList = .ok u'): u, AND NO ERROR. (LAID: no walk: one application.) -/
theorem Tryz.strconv_ParseUint_10_at64_ok (s : ByteArray) (hmax : s.size ≤ 9223372036854775806) (u : Nat) (h : Lib.parseUintB 64 s.data.toList = .ok u) (w : World) :
    Calls Tryz.prog 121 #[.string s, .int .i64 10, .int .i64 64] w fun e w' => e = .returned (.tuple #[.int .u64 u, .nilIface]) ∧ (w' = w ∨ w' = Lib.bytesWorld w 5 s) := Any.strconv_ParseUint_10_at64_ok Tryz.laysPu14 s hmax u h w
open Go.RowKit in
/-- strconv.ParseUint(s, 10, 32), AT EVERY STRING THAT SPELLS A uint32 ('Lib.parseUintB 32 s.data.toList = .ok u'): u, AND NO ERROR. (LAID: no walk: one application.) -/
theorem Tryz.strconv_ParseUint_10_at32_ok (s : ByteArray) (hmax : s.size ≤ 9223372036854775806) (u : Nat) (h : Lib.parseUintB 32 s.data.toList = .ok u) (w : World) :
    Calls Tryz.prog 121 #[.string s, .int .i64 10, .int .i64 32] w fun e w' => e = .returned (.tuple #[.int .u64 u, .nilIface]) ∧ (w' = w ∨ w' = Lib.bytesWorld w 5 s) := Any.strconv_ParseUint_10_at32_ok Tryz.laysPu14 s hmax u h w
def Tryz.lays157_ren : Go.Shelf.Ren := ⟨fun | 157 => 39 | 229 => 119 | 199 => 120 | 261 => 126 | 311 => 130 | 312 => 131 | n => n, fun | 9 => 9 | 31 => 29 | 3 => 3 | 5 => 5 | 4 => 4 | 119 => 261 | 0 => 0 | 40 => 263 | 152 => 274 | 21 => 21 | 154 => 276 | 51 => 66 | 141 => 278 | 196 => 286 | 193 => 283 | 198 => 289 | 49 => 287 | 194 => 284 | 201 => 292 | 226 => 301 | 46 => 296 | 227 => 302 | n => n, fun | 0 => 1 | 6 => 2 | n => n⟩
theorem Tryz.lays157 : Go.Proofs.Lays.n157 Tryz.prog Tryz.lays157_ren := {
  mixed := by kernel_rfl
  f157 := Tryz.func39.trans (congrArg some (by kernel_rfl))
  f199 := Tryz.func120.trans (congrArg some (by kernel_rfl))
  f229 := Tryz.func119.trans (congrArg some (by kernel_rfl))
  f261 := Tryz.func126.trans (congrArg some (by kernel_rfl))
  f311 := Tryz.func130.trans (congrArg some (by kernel_rfl))
  f312 := Tryz.func131.trans (congrArg some (by kernel_rfl))
  t0 := Tryz.underlying0
  a0 := Tryz.isAgg0
  z0 := Tryz.sizeOf0
  v0 := Tryz.zeroValue0
  t3 := Tryz.underlying3
  a3 := Tryz.isAgg3
  z3 := Tryz.sizeOf3
  v3 := Tryz.zeroValue3
  t4 := Tryz.underlying4
  a4 := Tryz.isAgg4
  z4 := Tryz.sizeOf4
  v4 := Tryz.zeroValue4
  t5 := Tryz.underlying5
  a5 := Tryz.isAgg5
  z5 := Tryz.sizeOf5
  v5 := Tryz.zeroValue5
  t9 := Tryz.underlying9
  a9 := Tryz.isAgg9
  z9 := Tryz.sizeOf9
  v9 := Tryz.zeroValue9
  t21 := Tryz.underlying21
  a21 := Tryz.isAgg21
  z21 := Tryz.sizeOf21
  v21 := Tryz.zeroValue21
  t31 := Tryz.underlying29
  a31 := Tryz.isAgg29
  z31 := Tryz.sizeOf29
  v31 := Tryz.zeroValue29
  t40 := Tryz.underlying263
  a40 := Tryz.isAgg263
  z40 := Tryz.sizeOf263
  v40 := Tryz.zeroValue263
  t46 := Tryz.underlying296
  a46 := Tryz.isAgg296
  z46 := Tryz.sizeOf296
  v46 := Tryz.zeroValue296
  t49 := Tryz.underlying287
  a49 := Tryz.isAgg287
  z49 := Tryz.sizeOf287
  v49 := Tryz.zeroValue287
  t51 := Tryz.underlying66
  a51 := Tryz.isAgg66
  z51 := Tryz.sizeOf66
  v51 := Tryz.zeroValue66
  t119 := Tryz.underlying261
  a119 := Tryz.isAgg261
  z119 := Tryz.sizeOf261
  t141 := Tryz.underlying278
  a141 := Tryz.isAgg278
  z141 := Tryz.sizeOf278
  v141 := Tryz.zeroValue278
  t152 := Tryz.underlying274
  a152 := Tryz.isAgg274
  z152 := Tryz.sizeOf274
  v152 := Tryz.zeroValue274
  t154 := Tryz.underlying276
  a154 := Tryz.isAgg276
  z154 := Tryz.sizeOf276
  v154 := Tryz.zeroValue276
  t193 := Tryz.underlying283
  a193 := Tryz.isAgg283
  z193 := Tryz.sizeOf283
  v193 := Tryz.zeroValue283
  t194 := Tryz.underlying284
  a194 := Tryz.isAgg284
  z194 := Tryz.sizeOf284
  v194 := Tryz.zeroValue284
  t196 := Tryz.underlying286
  a196 := Tryz.isAgg286
  z196 := Tryz.sizeOf286
  v196 := Tryz.zeroValue286
  t198 := Tryz.underlying289
  a198 := Tryz.isAgg289
  z198 := Tryz.sizeOf289
  v198 := Tryz.zeroValue289
  t201 := Tryz.underlying292
  a201 := Tryz.isAgg292
  z201 := Tryz.sizeOf292
  v201 := Tryz.zeroValue292
  t226 := Tryz.underlying301
  a226 := Tryz.isAgg301
  z226 := Tryz.sizeOf301
  v226 := Tryz.zeroValue301
  t227 := Tryz.underlying302
  a227 := Tryz.isAgg302
  z227 := Tryz.sizeOf302
  v227 := Tryz.zeroValue302
  g0 := by kernel_rfl
  g6 := by kernel_rfl }
open Go.RowKit Go.Lib in
/-- strings.Fields, the table by 'Lib.TabIs' (as strings.TrimSpace's contract). 'hg': the table's number, by its name: at a dump 'by kernel_rfl'. (LAID: no walk: one application.) -/
theorem Tryz.strings_Fields (s : ByteArray) (w : World) (hs : s.size < 4294967281) (hascii : ∀ (j : Nat) b, s.data.toList[j]? = some b → b.toNat < 128) (htab : Lib.TabIs Tryz.prog w "strings.asciiSpace" .u8 Lib.asciiSpaceTab) :
    Calls Tryz.prog 39 #[.string s] w fun e w' =>
      e = .returned (.slice (some ⟨w.heap.size, 0, none⟩) (Lib.fields s.data.toList).length (Lib.fields s.data.toList).length) ∧ w' = w.alloc (.cells ((Lib.fields s.data.toList).map fun l => Value.string ⟨l.toArray⟩).toArray 9) := Any.strings_Fields Tryz.lays157 (by kernel_rfl) (by kernel_rfl) s w hs hascii htab
end Go.Proofs
