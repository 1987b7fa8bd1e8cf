/- The text of rows; NetstatPrint by contract. -/
import Derived.Test.YtabfglmpnkgecaaGreatDoorM09
import Derived.Test.YtabfglmpnkgecaaGreatDoorM03
import Derived.Test.YtabfglmpnkgecaaGreatDoorM10
import Derived.Test.YtabfglmpnkgecaaGreatDoorM08
import Derived.Laws.Cover2
import Derived.Laws.FloatArith
set_option linter.unusedVariables false
set_option linter.unusedSimpArgs false
namespace Go.Proofs.YtabfglmpnkgecaaGreatDoor.X
open Go.RowKit Go.Proofs.YtabfglmpnkgecaaGreatDoorW.PrintWords Go.Proofs.YtabfglmpnkgecaaGreatDoorW.PrintLast Go.Proofs.YtabfglmpnkgecaaGreatDoorW.PrintMore Go.Proofs.YtabfglmpnkgecaaGreatDoor.Q

/-- The keys of a row, each behind a blank; its numbers, each behind a blank. -/
def keysL (l : List ByteArray) : List UInt8 := l.flatMap (fun s => 32 :: s.data.toList)
def valsL (l : List Int) : List UInt8 := l.flatMap (fun n => 32 :: sgL (sg n))
def lineA (r : S31) : List UInt8 := r.f0.data.toList ++ 58 :: keysL r.f2
def lineV (r : S31) : List UInt8 := r.f0.data.toList ++ 58 :: valsL r.f1
/-- A row as two lines. -/
def rowL (r : S31) : List UInt8 := lineA r ++ 10 :: (lineV r ++ [10])
def textL (l : List S31) : List UInt8 := l.flatMap rowL

theorem pigeon {α : Type} [DecidableEq α] : ∀ (S L : List α), (∀ x ∈ S, x ∈ L) → (∀ i, i < S.length → ∀ j, j < i → S[j]? ≠ S[i]?) → S.length ≤ L.length
  | [], L, _, _ => Nat.zero_le _
  | x :: S, L, h, hd => by
    have hx := h x List.mem_cons_self
    have h2 : ∀ y ∈ S, y ∈ L.erase x := fun y hy => by
      have hne : y ≠ x := by
        rintro rfl
        obtain ⟨i, hi, he⟩ := List.mem_iff_getElem.1 hy
        have := hd (i + 1) (by simp; omega) 0 (by omega)
        apply this
        simp [hi, he]
      exact (List.mem_erase_of_ne hne).2 (h y (List.mem_cons_of_mem _ hy))
    have ih := pigeon S (L.erase x) h2 (fun i hi j hj => by
      have := hd (i + 1) (by simp; omega) (j + 1) (by omega)
      simpa using this)
    rw [List.length_erase_of_mem hx] at ih
    have : 0 < L.length := List.length_pos_of_mem hx
    simp only [List.length_cons]
    omega
theorem names_small : ∀ g : ByteArray, ∀ x ∈ netNames g, x.toList.length ≤ 30 := by
  have h1 : tcpNames.all (fun x => decide (x.data.toList.length ≤ 30)) = true := by decide +kernel
  have h2 : ipNames.all (fun x => decide (x.data.toList.length ≤ 30)) = true := by decide +kernel
  intro g x hx
  rw [ByteArray.toList_eq]
  unfold netNames at hx
  split at hx
  · exact of_decide_eq_true (List.all_eq_true.1 h1 x hx)
  · exact of_decide_eq_true (List.all_eq_true.1 h2 x hx)
theorem getD_mem {α : Type} (d : α) {l : List α} {i : Nat} (h : i < l.length) : l.getD i d ∈ l := by
  rw [List.getD_eq_getElem?_getD, List.getElem?_eq_getElem h]; exact List.getElem_mem h
theorem mem_getD {α : Type} (d : α) {l : List α} {x : α} (h : x ∈ l) : ∃ i, i < l.length ∧ l.getD i d = x := by
  obtain ⟨i, hi, he⟩ := List.mem_iff_getElem.1 h
  exact ⟨i, hi, by rw [List.getD_eq_getElem?_getD, List.getElem?_eq_getElem hi]; exact he⟩
/-- A fine row is small. -/
theorem fine_small (r : S31) (h : FineRow r) : r.f0.data.toList.length ≤ 6 ∧ r.f2.length ≤ 123 ∧ r.f1.length = r.f2.length ∧ (∀ s ∈ r.f2, s.data.toList.length ≤ 30) ∧ ∀ n ∈ r.f1, -9007199254740992 ≤ sg n ∧ sg n ≤ 9007199254740992 := by
  obtain ⟨h0, _, h2, h3⟩ := h
  refine ⟨?_, ?_, h2.symm, fun s hs => ?_, fun n hn => ?_⟩
  · rw [← ByteArray.toList_eq]
    rcases h0 with h0 | h0 <;> rw [h0] <;> decide
  · have hp := pigeon (r.f2.map (·.toList)) ((netNames r.f0).map (·.toList)) (fun x hx => by
      obtain ⟨s, hs, rfl⟩ := List.mem_map.1 hx
      obtain ⟨i, hi, rfl⟩ := mem_getD ⟨#[]⟩ hs
      obtain ⟨y, hy, he⟩ := (h3 i hi).1
      rw [← he]; exact List.mem_map_of_mem hy) (fun i hi j hj => by
      rw [List.length_map] at hi
      have := (h3 i hi).2.1 j hj
      rw [List.getElem?_map, List.getElem?_map, List.getElem?_eq_getElem hi, List.getElem?_eq_getElem (by omega : j < r.f2.length)]
      intro he
      apply this
      have he2 : r.f2[j].toList = r.f2[i].toList := Option.some.inj he
      have d1 : r.f2.getD j ⟨#[]⟩ = r.f2[j] := by rw [List.getD_eq_getElem?_getD, List.getElem?_eq_getElem (by omega : j < r.f2.length)]; rfl
      have d2 : r.f2.getD i ⟨#[]⟩ = r.f2[i] := by rw [List.getD_eq_getElem?_getD, List.getElem?_eq_getElem hi]; rfl
      rw [d1, d2, he2])
    rw [List.length_map, List.length_map] at hp
    exact Nat.le_trans hp (netNames_len _)
  · obtain ⟨i, hi, rfl⟩ := mem_getD ⟨#[]⟩ hs
    obtain ⟨y, hy, he⟩ := (h3 i hi).1
    rw [← ByteArray.toList_eq, ← he]
    exact names_small _ y hy
  · obtain ⟨i, hi, rfl⟩ := mem_getD (0 : Int) hn
    exact (h3 i (by omega)).2.2.2

theorem keys_len : ∀ l : List ByteArray, (∀ s ∈ l, s.data.toList.length ≤ 30) → (keysL l).length ≤ 31 * l.length
  | [], _ => by simp [keysL]
  | s :: l, h => by
    have h1 := h s List.mem_cons_self
    have h2 := keys_len l (fun x hx => h x (List.mem_cons_of_mem _ hx))
    simp only [keysL, List.flatMap_cons, List.length_append, List.length_cons] at *
    omega
theorem vals_len : ∀ l : List Int, (∀ n ∈ l, -9007199254740992 ≤ sg n ∧ sg n ≤ 9007199254740992) → (valsL l).length ≤ 31 * l.length
  | [], _ => by simp [valsL]
  | n :: l, h => by
    have h1 := h n List.mem_cons_self
    have h3 := sgL_len (sg n) h1.1 h1.2
    have h2 := vals_len l (fun x hx => h x (List.mem_cons_of_mem _ hx))
    simp only [valsL, List.flatMap_cons, List.length_append, List.length_cons] at *
    omega
theorem rowL_len (r : S31) (h : FineRow r) : (rowL r).length ≤ 10000 := by
  obtain ⟨h0, h1, h2, h3, h4⟩ := fine_small r h
  have := keys_len r.f2 h3
  have := vals_len r.f1 h4
  simp only [rowL, lineA, lineV, List.length_append, List.length_cons, List.length_nil]
  omega
theorem textL_len : ∀ l : List S31, (∀ r ∈ l, FineRow r) → (textL l).length ≤ 10000 * l.length
  | [], _ => by simp [textL]
  | r :: l, h => by
    have h1 := rowL_len r (h r List.mem_cons_self)
    have h2 := textL_len l (fun r hr => h r (List.mem_cons_of_mem _ hr))
    simp only [textL, List.flatMap_cons, List.length_append, List.length_cons] at *
    omega
theorem textL_take (l : List S31) (i : Nat) (hi : i < l.length) : textL (l.take (i + 1)) = textL (l.take i) ++ rowL (l.getD i z31) := by
  rw [List.take_succ_eq_append_getElem hi, textL, List.flatMap_append]
  simp [textL, List.getD_eq_getElem?_getD, hi]
theorem keysL_take (l : List ByteArray) (i : Nat) (hi : i < l.length) : keysL (l.take (i + 1)) = keysL (l.take i) ++ 32 :: (l.getD i ⟨#[]⟩).data.toList := by
  rw [List.take_succ_eq_append_getElem hi, keysL, List.flatMap_append]
  simp [keysL, List.getD_eq_getElem?_getD, hi]
theorem valsL_take (l : List Int) (i : Nat) (hi : i < l.length) : valsL (l.take (i + 1)) = valsL (l.take i) ++ 32 :: sgL (sg (l.getD i 0)) := by
  rw [List.take_succ_eq_append_getElem hi, valsL, List.flatMap_append]
  simp [valsL, List.getD_eq_getElem?_getD, hi]
theorem fine_mem {l : List S31} (h : FineRows l) : ∀ r ∈ l, FineRow r := fun r hr => by
  obtain ⟨i, hi, rfl⟩ := mem_getD z31 hr
  exact h.1 i hi

theorem print_up {a : ByteArray} {b : List S31} {c d : Int} {r : ByteArray} : ∀ m k, spec_groupsPrint.l0 k a b c d = some r → spec_groupsPrint.l0 (k + m) a b c d = some r
  | 0, k, h => h
  | m + 1, k, h => (spec_groupsPrint.mono_l (k + m)).1 _ _ _ _ r (print_up m k h)
theorem print_up1 {a a6 a7 : ByteArray} {b : List S31} {c d : Int} {e : List ByteArray} {f g : Int} {x : ByteArray} {y : List Int} {z : List ByteArray} {r : ByteArray} : ∀ m k, spec_groupsPrint.l1 k a a6 a7 b c d e f g x y z = some r → spec_groupsPrint.l1 (k + m) a a6 a7 b c d e f g x y z = some r
  | 0, k, h => h
  | m + 1, k, h => (spec_groupsPrint.mono_l (k + m)).2 _ _ _ _ _ _ _ _ _ _ _ _ r (print_up1 m k h)
theorem sg_wrap (n : Int) : wrap64 n = sg n := by
  unfold sg wrap64
  exact (IntKind.wrap_i64 n).symm
theorem print_l0 (l : List S31) (hl : l.length ≤ 1000) (hf : ∀ r ∈ l, FineRow r) : ∀ m i (acc : ByteArray), i + m = l.length → acc.data.toList = textL (l.take i) →
    ∃ k, spec_groupsPrint.l0 k acc l (l.length : Int) (i : Int) = some ⟨(textL l).toArray⟩
  | 0, i, acc, h, ha => ⟨1, by
      unfold spec_groupsPrint.l0
      rw [if_neg (by omega)]
      exact congrArg some (ba_ext (by rw [ha, List.take_of_length_le (by omega)]))⟩
  | m + 1, i, acc, h, ha => by
    have hi : i < l.length := by omega
    have e1 : rd_T31 l (i : Int) = l.getD i z31 := by rw [rd_T31, Int.toNat_natCast]
    have hr := hf _ (getD_mem z31 hi)
    have hat := textL_take l i hi
    have hacc : acc.size ≤ 10000000 := by
      rw [ba_size, ha]
      have := textL_len (l.take i) (fun r hr => hf r (List.mem_of_mem_take hr))
      rw [List.length_take] at this
      omega
    generalize l.getD i z31 = r at *
    obtain ⟨h0, h1, h2, h3, h4⟩ := fine_small r hr
    have inner : ∀ q j (x6 x7 : ByteArray), j + q = r.f2.length → x6.data.toList = r.f0.data.toList ++ 58 :: keysL (r.f2.take j) → x7.data.toList = r.f0.data.toList ++ 58 :: valsL (r.f1.take j) →
        ∃ k, spec_groupsPrint.l1 k acc x6 x7 l (l.length : Int) (i : Int) r.f2 (r.f2.length : Int) (j : Int) r.f0 r.f1 r.f2 = some ⟨(textL l).toArray⟩ := by
      intro q
      induction q with
      | zero =>
        intro j x6 x7 hj hx6 hx7
        obtain rfl : j = r.f2.length := by omega
        rw [List.take_of_length_le (Nat.le_refl _)] at hx6
        rw [List.take_of_length_le (by omega)] at hx7
        have hk := keys_len r.f2 h3
        have hv := vals_len r.f1 h4
        have s6 : x6.size ≤ 10000 := by rw [ba_size, hx6]; simp only [List.length_append, List.length_cons]; omega
        have s7 : x7.size ≤ 10000 := by rw [ba_size, hx7]; simp only [List.length_append, List.length_cons]; omega
        have z1 : (x6 ++ (⟨#[10]⟩ : ByteArray)).size = x6.size + 1 := by rw [ba_size, dapp, List.length_append, ← ba_size]; rfl
        have z2 : ((x6 ++ (⟨#[10]⟩ : ByteArray)) ++ x7).size = x6.size + 1 + x7.size := by rw [ba_size, dapp, List.length_append, ← ba_size, ← ba_size, z1]
        have z3 : (((x6 ++ (⟨#[10]⟩ : ByteArray)) ++ x7) ++ (⟨#[10]⟩ : ByteArray)).size = x6.size + 1 + x7.size + 1 := by rw [ba_size, dapp, List.length_append, ← ba_size, z2]; rfl
        obtain ⟨k, hk⟩ := print_l0 l hl hf m (i + 1) (acc ++ (((x6 ++ (⟨#[10]⟩ : ByteArray)) ++ x7) ++ (⟨#[10]⟩ : ByteArray))) (by omega) (by
          rw [dapp, dapp, dapp, dapp, ha, hat, hx6, hx7]
          simp [rowL, lineA, lineV])
        refine ⟨k + 1, ?_⟩
        unfold spec_groupsPrint.l1
        rw [if_neg (by omega), if_pos (by omega), if_pos (by rw [z1]; omega), if_pos (by rw [z2]; omega), if_pos (by rw [z3]; omega)]
        rw [show wrap64 ((i : Int) + 1) = ((i + 1 : Nat) : Int) by unfold wrap64; omega]
        exact hk
      | succ q ih =>
        intro j x6 x7 hj hx6 hx7
        have hj2 : j < r.f2.length := by omega
        have e2 : rdOf ByteArray.empty r.f2 (j : Int) = r.f2.getD j ⟨#[]⟩ := by rw [rdOf, Int.toNat_natCast]; rfl
        have e3 : rd r.f1 (j : Int) = r.f1.getD j 0 := by rw [rd, Int.toNat_natCast]
        have hs := h3 _ (getD_mem ⟨#[]⟩ hj2)
        have hn := h4 _ (getD_mem 0 (show j < r.f1.length by omega))
        obtain ⟨k2, hk2⟩ := signed_ok _ hn.1 hn.2
        have hlen := sgL_len _ hn.1 hn.2
        have hkt := keysL_take r.f2 j hj2
        have hvt := valsL_take r.f1 j (by omega)
        have hk := keys_len (r.f2.take j) (fun s hs => h3 s (List.mem_of_mem_take hs))
        have hv := vals_len (r.f1.take j) (fun s hs => h4 s (List.mem_of_mem_take hs))
        rw [List.length_take] at hk hv
        have s6 : x6.size ≤ 10000 := by rw [ba_size, hx6]; simp only [List.length_append, List.length_cons]; omega
        have s7 : x7.size ≤ 10000 := by rw [ba_size, hx7]; simp only [List.length_append, List.length_cons]; omega
        generalize r.f2.getD j ⟨#[]⟩ = s at *
        generalize hsv : sg (r.f1.getD j 0) = v at *
        have z1 : ((⟨#[32]⟩ : ByteArray) ++ s).size = 1 + s.size := by rw [ba_size, dapp, List.length_append, ← ba_size, ← ba_size]; rfl
        have z2 : ((⟨#[32]⟩ : ByteArray) ++ (⟨(sgL v).toArray⟩ : ByteArray)).size = 1 + (sgL v).length := by rw [ba_size, dapp, List.length_append, ba_list]; simp [Nat.add_comm]
        have zs : s.size ≤ 30 := by rw [ba_size]; exact hs
        have zv : (⟨(sgL v).toArray⟩ : ByteArray).size = (sgL v).length := by rw [ba_size, ba_list]
        obtain ⟨k, hk3⟩ := ih (j + 1) (x6 ++ ((⟨#[32]⟩ : ByteArray) ++ s)) (x7 ++ ((⟨#[32]⟩ : ByteArray) ++ (⟨(sgL v).toArray⟩ : ByteArray))) (by omega) (by rw [dapp, dapp, hx6, hkt]; simp) (by rw [dapp, dapp, hx7, hvt]; simp)
        refine ⟨k + k2 + 1, ?_⟩
        have hk3' := print_up1 k2 k hk3
        have hk2' := signed_up k k2 hk2
        unfold spec_groupsPrint.l1
        rw [if_pos (by omega), if_pos (by omega), if_pos (by omega), e2, e3, sg_wrap, hsv]
        rw [if_pos (by omega), if_pos (by rw [z1]; omega), if_pos (by omega), Nat.add_comm k k2, hk2']
        simp only [Option.bind_some]
        rw [if_pos (by rw [zv]; omega), if_pos (by rw [z2]; omega), show wrap64 ((j : Int) + 1) = ((j + 1 : Nat) : Int) by unfold wrap64; omega, Nat.add_comm k2 k]
        exact hk3'
    obtain ⟨k, hk⟩ := inner r.f2.length 0 (r.f0 ++ (⟨#[58]⟩ : ByteArray)) (r.f0 ++ (⟨#[58]⟩ : ByteArray)) (by omega) (by rw [dapp]; simp [keysL]) (by rw [dapp]; simp [valsL])
    refine ⟨k + 1, ?_⟩
    unfold spec_groupsPrint.l0
    rw [if_pos (by omega), if_pos (by omega), if_pos (by omega), e1, if_pos (by rw [ba_size]; omega)]
    exact hk
end Go.Proofs.YtabfglmpnkgecaaGreatDoor.X

/- NetstatPrint by contract: the text of rows. -/
namespace Go.Proofs.YtabfglmpnkgecaaGreatDoor.X
open Go.RowKit Go.Proofs.YtabfglmpnkgecaaGreatDoorW.PrintWords Go.Proofs.YtabfglmpnkgecaaGreatDoorW.PrintLast Go.Proofs.YtabfglmpnkgecaaGreatDoorW.PrintMore Go.Proofs.YtabfglmpnkgecaaGreatDoor.Q

theorem groupsX (w : World) : Calls Tryz.prog 14 #[] w fun e w' => ∃ A c, e = .returned (.slice A 2 c) ∧ Kd.string.C w' A 2 netGroups ∧ Below w.heap.size w w' := by
  refine (spec_netstatGroups.calls netGroups w rfl).mono ?_
  rintro e w' ⟨v, rfl, hR, hB⟩
  obtain ⟨A, c, rfl, hl, hC⟩ := Kd.R_reads hR
  exact ⟨A, c, rfl, hC, hB⟩
set_option maxHeartbeats 8000000 in
set_option maxRecDepth 100000 in
theorem print_calls (l : List S31) (A : Option Addr) (c : Nat) (w : World) (hr : Kd.C k31 w A l.length l) (hc : l.length ≤ c) (hl : l.length ≤ 1000) :
    Calls Tryz.prog 6 #[.slice A l.length c] w fun e w' => Below w.heap.size w w' ∧ (e = .returned (.tuple #[.string ⟨#[]⟩, .int .i64 2]) ∨ (FineRows l ∧ e = .returned (.tuple #[.string ⟨(textL l).toArray⟩, .int .i64 1]))) := by
  have HR := Aside0.mk hr
  have HLC := Aside0.mk hc
  have HL := Aside0.mk hl
  clear hr hc hl
  obtain ⟨T, hT⟩ : ∃ T : ByteArray, (⟨(textL l).toArray⟩ : ByteArray) = T := ⟨_, rfl⟩
  rw [hT]
  replace hT := Aside0.mk hT
  go_enter Tryz.func6, Tryz.ntmps6
  go_wp2_with fail
  refine (groupsX _).mono ?_
  rintro e w1 ⟨A1, c1, rfl, hC, hB⟩
  have HC := Aside0.mk hC
  have HB1 := Aside0.mk hB
  clear hC hB
  go_wp2_with fail
  refine (groupsFine_calls l A c A1 c1 w1 (Kd.C_below HR.out HB1.out) HLC.out HC.out).mono ?_
  rintro e w2 ⟨b, rfl, hb, hB⟩
  have HBb := Aside0.mk hb
  have HB2 := Aside0.mk (below_step HB1.out hB)
  clear hb hB HC HB1
  cases b
  · go_wp2_with fail
    go_ret2
    exact ⟨HB2.out, .inl rfl⟩
  · have HF := Aside0.mk (HBb.out rfl)
    clear HBb
    obtain ⟨k, hk⟩ := print_l0 l HL.out (fine_mem HF.out) l.length 0 ⟨#[]⟩ (by omega) (by simp [textL])
    have H15 := (spec_groupsPrint.calls k A c l _ w2 (Kd.C_below HR.out HB2.out) HLC.out hk)
    clear hk
    rw [hT.out] at H15
    replace H15 := Aside0.mk H15
    go_wp2_with fail
    refine H15.out.mono ?_
    rintro e w3 ⟨rfl, hB⟩
    have HB3 := Aside0.mk (below_step HB2.out hB)
    clear hB
    go_wp2_with fail
    go_ret2
    exact ⟨HB3.out, .inr ⟨HF.out, rfl⟩⟩
end Go.Proofs.YtabfglmpnkgecaaGreatDoor.X

/- groupsTree by contract: the tree of rows. -/
namespace Go.Proofs.YtabfglmpnkgecaaGreatDoor.X
open Go.RowKit Go.Proofs.YtabfglmpnkgecaaGreatDoorW.PrintWords Go.Proofs.YtabfglmpnkgecaaGreatDoorW.PrintLast Go.Proofs.YtabfglmpnkgecaaGreatDoorW.PrintMore Go.Proofs.YtabfglmpnkgecaaGreatDoor.Q
attribute [local go_sem] run_store_float

/-- A number of 64 bits with its sign, as a float's bits. -/
def valF (n : Int) : Nat := floatOfInt .f64 (sg n)
def pickKey (r : S31) (g s : ByteArray) (x : S39) (i : Nat) : S39 := if (r.f0.toList == g.toList && (r.f2.getD i ⟨#[]⟩).toList == s.toList) = true then floatN s (valF (r.f1.getD i 0)) else x
def pickRow (g s : ByteArray) (x : S39) (r : S31) : S39 := (List.range r.f2.length).foldl (pickKey r g s) x
/-- What rows say of a name in a group. -/
def leafOf (l : List S31) (g s : ByteArray) : S39 := l.foldl (pickRow g s) (noneN s)
def kidsOf (l : List S31) (g : ByteArray) : List S39 := (netNames g).map (leafOf l g)
def treeKids (l : List S31) : List S39 := intN ⟨#[80, 73, 68]⟩ 0 :: netGroups.map (fun g => recN g (kidsOf l g))

theorem pickKey_leaf {r : S31} {g s : ByteArray} {x : S39} {i : Nat} (h : x.f7 = []) : (pickKey r g s x i).f7 = [] := by
  unfold pickKey
  split
  · rfl
  · exact h
theorem foldl_leaf {α : Type} {f : S39 → α → S39} (hf : ∀ x a, x.f7 = [] → (f x a).f7 = []) : ∀ (l : List α) (x : S39), x.f7 = [] → (l.foldl f x).f7 = []
  | [], _, h => h
  | a :: l, x, h => foldl_leaf hf l (f x a) (hf x a h)
theorem pickRow_leaf {g s : ByteArray} {x : S39} {r : S31} (h : x.f7 = []) : (pickRow g s x r).f7 = [] := foldl_leaf (fun x a hx => pickKey_leaf hx) _ _ h
theorem leafOf_leaf (l : List S31) (g s : ByteArray) : (leafOf l g s).f7 = [] := foldl_leaf (fun x a hx => pickRow_leaf hx) _ _ rfl
theorem rowFold_take (l : List S31) (g s : ByteArray) (i : Nat) (hi : i < l.length) : (l.take (i + 1)).foldl (pickRow g s) (noneN s) = pickRow g s ((l.take i).foldl (pickRow g s) (noneN s)) (l.getD i z31) := by
  rw [List.take_succ_eq_append_getElem hi, List.foldl_append, List.getD_eq_getElem?_getD, List.getElem?_eq_getElem hi]
  rfl
/-- Block b holds a leaf; what lay below b is as it was. -/
def LeafAt (b : Nat) (x : S39) (W W' : World) : Prop := W'.heap[b]? = some (.cells (cells8 x none 0 0) 39 (0, 0)) ∧ Below b W W'
theorem LeafAt.below {b : Nat} {x : S39} {W W1 W2 : World} (h : LeafAt b x W W1) (hb : Below W1.heap.size W1 W2) : LeafAt b x W W2 := ⟨blk_below h.1 hb, below_low h.2 hb (Nat.le_of_lt (blk_lt h.1))⟩

theorem info39 : (Tryz.prog.info? 39).map (fun i => (i.zero, i.size, i.bytes)) = some (some (.agg #[(.string ⟨#[]⟩), (.int .i64 0), (.bool false), (.int .i64 0), (.int .u64 0), (.float .f64 0), (.string ⟨#[]⟩), (.slice none 0 0)]), 8, 96) := by kernel_rfl
set_option maxHeartbeats 16000000 in
set_option maxRecDepth 100000 in
theorem groupsTree_calls (l : List S31) (A : Option Addr) (c : Nat) (A1 : Option Addr) (c1 : Nat) (w : World) (hr : Kd.C k31 w A l.length l) (hF : FineRows l) (hg : Kd.string.C w A1 2 netGroups) :
    Calls Tryz.prog 16 #[.slice A l.length c, .slice A1 2 c1] w fun e w' => ∃ A7 c7, e = .returned (.agg (cells8 (recN ⟨#[]⟩ (treeKids l)) A7 (treeKids l).length c7)) ∧ (treeKids l).length ≤ c7 ∧ Kd.F k39 w' (fun k => w.heap.size ≤ k) A7 (treeKids l).length (treeKids l) ∧ Below w.heap.size w w' := by
  have HR := Aside0.mk hr
  have HF := Aside0.mk hF
  have HG := Aside0.mk hg
  have hm : l.length ≤ 9223372036854775807 := hr.2.1
  have hu31 := Tryz.underlying31
  have hu39 := Tryz.underlying39
  have hcv : ∀ (n : Int) (W : World), (convert 2 36 (.int .i64 n)).run Tryz.prog W = .ok (.float .f64 (floatOfInt .f64 n)) W := fun n W => run_convert_int_float W 2 36 .i64 .f64 n (by kernel_rfl) Tryz.underlying36
  clear hr hF hg
  go_enter Tryz.func16, Tryz.ntmps16
  go_wp2_with fail
  have HZ := Aside0.mk (blk_new w (.cells zero8 39 (0, 0)))
  have HB := Aside0.mk (below_alloc (Below.refl w.heap.size w) (.cells zero8 39 (0, 0)))
  change Calls _ _ _ (w.alloc (.cells zero8 39 (0, 0))) _
  generalize w.alloc (.cells zero8 39 (0, 0)) = W0 at *
  refine (intX ⟨#[80, 73, 68]⟩ 0 W0).mono ?_
  rintro e W1 ⟨rfl, hB⟩
  have HZ1 := Aside0.mk (blk_below HZ.out hB)
  have HB1 := Aside0.mk (below_step HB.out hB)
  have HS1 := Aside0.mk (blk_lt HZ1.out)
  clear hB HZ HB
  have hleaf := leaf_FK W1 (fun k => w.heap.size + 1 ≤ k) (intN ⟨#[80, 73, 68]⟩ 0) rfl
  unfold cells8
  go_wp2_with ((with_reducible refine gate_dst (N := 17) rfl ?_); refine Kd.N_lit k39 (w0 := w) w.heap.size 39 rfl (N' := 17) rfl (xs := [intN ⟨#[80, 73, 68]⟩ 0]) (inner := (cells8 (intN ⟨#[80, 73, 68]⟩ 0) none 0 0).toList) (ok := fun k => w.heap.size + 1 ≤ k) (okp := fun _ => False) ?hrun ?hrep ?hok ?hfresh HB1.out ?hbase (by decide) ?_; (case hrun => first | (go_simp; done) | (go_simp; rfl)); (case hrep => exact Reps.c8 (leaf_FK W1 (fun _ => False) (intN ⟨#[80, 73, 68]⟩ 0) rfl) (Reps.none _ _)); (case hok => exact fun k hk => hk.elim); (case hfresh => have := HS1.out; omega); (case hbase => have := HS1.out; omega); intro v5 w3 hN hb hg hat; have HN := Aside0.mk hN; have HB3 := Aside0.mk hb; have HZ3 := Aside0.mk (blk_grown HZ1.out hg (by simp)); clear hN hb hg hat HZ1 HB1 HS1 hleaf)
  have HT0 : Aside0 (Kd.N k39 39 w3 w.heap.size (fun k => w.heap.size + 1 ≤ k) v5 ((treeKids l).take (0 + 1)) ∧ w3.heap[w.heap.size]? = some (.cells zero8 39 (0, 0)) ∧ Below w.heap.size w w3) := ⟨HN.out, HZ3.out, HB3.out⟩
  clear HN HB3 HZ3
  go_loopw [5, 20] (fun v5 v20 w' => ∃ i : Nat, i ≤ 2 ∧ v20 = .int .i64 i ∧ Aside0 (Kd.N k39 39 w' w.heap.size (fun k => w.heap.size + 1 ≤ k) v5 ((treeKids l).take (i + 1)) ∧ w'.heap[w.heap.size]? = some (.cells zero8 39 (0, 0)) ∧ Below w.heap.size w w')) (fun _ v20 _ => 2 - (intOf v20).toNat)
  case atStart => exact ⟨0, by omega, rfl, HT0⟩
  case round =>
    clear HT0
    obtain ⟨i, hi, rfl, HT⟩ := hrel
    by_cases hlt : i < 2
    · obtain ⟨a1, ea1, hn⟩ := Kd.at_string (Kd.C_below HG.out HT.out.2.2) (i : Int) (by omega) (by omega)
      cases ea1
      rw [Int.toNat_natCast] at hn
      have e1 : rdOf ByteArray.empty netGroups (i : Int) = netGroups.getD i ⟨#[]⟩ := by rw [rdOf, Int.toNat_natCast]; rfl
      rw [e1] at hn
      have HGN : Aside0 ((netGroups.getD i ⟨#[]⟩).toList = tcpL ∨ (netGroups.getD i ⟨#[]⟩).toList = ipL) := ⟨by
        obtain rfl | rfl : i = 0 ∨ i = 1 := by omega
        · left; show (⟨#[84, 99, 112, 69, 120, 116]⟩ : ByteArray).toList = _; rw [ByteArray.toList_eq]; rfl
        · right; show (⟨#[73, 112, 69, 120, 116]⟩ : ByteArray).toList = _; rw [ByteArray.toList_eq]; rfl⟩
      have HKT : Aside0 ((treeKids l).take (i + 1 + 1) = (treeKids l).take (i + 1) ++ [recN (netGroups.getD i ⟨#[]⟩) (kidsOf l (netGroups.getD i ⟨#[]⟩))]) := ⟨by
        obtain rfl | rfl : i = 0 ∨ i = 1 := by omega
        · rfl
        · rfl⟩
      clear e1
      generalize netGroups.getD i ⟨#[]⟩ = g at *
      go_wp2_with (go_at_call 25; refine (namesX g HGN.out _).mono ?_; rintro e w4 ⟨A4, c4, rfl, hC4, hB4⟩; have HC4 := Aside0.mk hC4; have HT4 : Aside0 (Kd.N k39 39 w4 w.heap.size (fun k => w.heap.size + 1 ≤ k) u5 ((treeKids l).take (i + 1)) ∧ w4.heap[w.heap.size]? = some (.cells zero8 39 (0, 0)) ∧ Below w.heap.size w w4) := ⟨Kd.N_below HT.out.1 hB4, blk_below HT.out.2.1 hB4, below_step HT.out.2.2 hB4⟩; clear hC4 hB4)
      clear hn HT
      have hnl : (netNames g).length ≤ 123 := netNames_len g
      have HL2 : Aside0 (Kd.N k39 39 w4 w4.heap.size (fun k => w4.heap.size ≤ k) (.slice none 0 0) ((kidsOf l g).take 0) ∧ Below w4.heap.size w4 w4) := ⟨Kd.N_nil _ _ _ _ _, Below.refl _ _⟩
      go_loopw [8, 27] (fun v8 v27 w' => ∃ j : Nat, j ≤ (netNames g).length ∧ v27 = .int .i64 j ∧ Aside0 (Kd.N k39 39 w' w4.heap.size (fun k => w4.heap.size ≤ k) v8 ((kidsOf l g).take j) ∧ Below w4.heap.size w4 w')) (fun _ v27 _ => (netNames g).length - (intOf v27).toNat)
      case atStart => exact ⟨0, by omega, rfl, HL2⟩
      case round =>
        clear HL2
        obtain ⟨j, hj, rfl, HL2⟩ := hrel
        by_cases hlt2 : j < (netNames g).length
        · obtain ⟨a4, ea4, hs⟩ := Kd.at_string (Kd.C_below HC4.out HL2.out.2) (j : Int) (by omega) (by omega)
          cases ea4
          rw [Int.toNat_natCast] at hs
          have e1 : rdOf ByteArray.empty (netNames g) (j : Int) = (netNames g).getD j ⟨#[]⟩ := by rw [rdOf, Int.toNat_natCast]; rfl
          rw [e1] at hs
          have HK2 : Aside0 ((kidsOf l g).take (j + 1) = (kidsOf l g).take j ++ [leafOf l g ((netNames g).getD j ⟨#[]⟩)]) := ⟨by
            rw [List.take_succ_eq_append_getElem (by simp [kidsOf]; exact hlt2), List.getD_eq_getElem?_getD, List.getElem?_eq_getElem hlt2]
            simp [kidsOf]⟩
          clear e1
          generalize (netNames g).getD j ⟨#[]⟩ = s at *
          go_upto_region 9 with (fail)
          go_wp2_with fail
          refine (noneX s wr).mono ?_
          rintro e wn ⟨rfl, hBn⟩
          have HBn := Aside0.mk hBn
          clear hBn hs
          unfold cells8
          go_upto_region 10 with (fail)
          have HLA : Aside0 (LeafAt wn.heap.size ((l.take 0).foldl (pickRow g s) (noneN s)) wn (wn.alloc (.cells (cells8 (noneN s) none 0 0) 39 (0, 0)))) := ⟨blk_new wn _, below_alloc (Below.refl _ _) _⟩
          change Code.wp _ _ _ _ (wn.alloc (.cells (cells8 (noneN s) none 0 0) 39 (0, 0)))
          generalize wn.alloc (.cells (cells8 (noneN s) none 0 0) 39 (0, 0)) = w5 at *
          have HWN : Aside0 (Below w.heap.size w wn ∧ w.heap.size ≤ wn.heap.size) := ⟨below_low (below_low HT4.out.2.2 HL2.out.2 HT4.out.2.2.size) HBn.out (by have := HT4.out.2.2.size; have := HL2.out.2.size; omega), by have := HT4.out.2.2.size; have := HL2.out.2.size; have := HBn.out.size; omega⟩
          have HWN2 : Aside0 (w4.heap.size ≤ wn.heap.size ∧ Below wr.heap.size wr wn ∧ wn.heap.size = wn.heap.size) := ⟨by have := HL2.out.2.size; have := HBn.out.size; omega, HBn.out, rfl⟩
          generalize hg11 : wn.heap.size = g11 at *
          replace hg11 := Aside0.mk hg11
          go_wp2
          go_loopw [35] (fun v35 w' => ∃ q : Nat, q ≤ l.length ∧ v35 = .int .i64 q ∧ Aside0 (LeafAt g11 ((l.take q).foldl (pickRow g s) (noneN s)) wn w')) (fun v35 _ => l.length - (intOf v35).toNat)
          case atStart => exact ⟨0, by omega, rfl, HLA⟩
          case round =>
            clear HLA
            obtain ⟨q, hq, rfl, HLA⟩ := hrel
            by_cases hlt3 : q < l.length
            · obtain ⟨ad, A3, c3, A2, c2, e, h0, h1, h2, hl1, hC1, hl2, hC2⟩ := at_T31 HR.out (q : Int) (Int.natCast_nonneg _) (by omega)
              cases e
              rw [Int.toNat_natCast] at h0 h1 h2
              have e0 : rd_T31 l (q : Int) = l.getD q z31 := by rw [rd_T31, Int.toNat_natCast]
              rw [e0] at h0 h1 h2 hl1 hC1 hl2 hC2
              have HFR := Aside0.mk (HF.out.1 q hlt3).2.2.1
              have HRT := Aside0.mk (rowFold_take l g s q hlt3)
              generalize hx0 : (l.take q).foldl (pickRow g s) (noneN s) = x0 at *
              generalize l.getD q z31 = r at *
              have hb2 : Below w.heap.size w wr := below_low HWN.out.1 HLA.out.2 HWN.out.2
              replace h0 := (hb2.cell (World.block_lt_of_cell? w _ h0)).trans h0
              replace h1 := (hb2.cell (World.block_lt_of_cell? w _ h1)).trans h1
              replace h2 := (hb2.cell (World.block_lt_of_cell? w _ h2)).trans h2
              have HC1 := Aside0.mk (Kd.C_below hC1 (below_low hb2 (Below.refl _ _) hb2.size))
              have HC2 := Aside0.mk hC2
              have HC1 := Aside0.mk hC1
              have hm2 : r.f2.length ≤ 9223372036854775807 := hC2.2.1
              clear hC1 hl1 hC2 hl2 e0 hx0
              go_upto_region 13 with (fail)
              have HL4 : Aside0 (LeafAt g11 ((List.range 0).foldl (pickKey r g s) x0) wn (wr.alloc (.cells #[.string r.f0, .slice A3 r.f1.length c3, .slice A2 r.f2.length c2] 31 (0, 0))) ∧ (wr.alloc (.cells #[.string r.f0, .slice A3 r.f1.length c3, .slice A2 r.f2.length c2] 31 (0, 0))).heap[wr.heap.size]? = some (.cells #[.string r.f0, .slice A3 r.f1.length c3, .slice A2 r.f2.length c2] 31 (0, 0)) ∧ g11 < wr.heap.size) := ⟨HLA.out.below (below_alloc (Below.refl _ _) _), blk_new _ _, blk_lt HLA.out.1⟩
              clear h0 h1 h2 hb2 HLA
              generalize wr.alloc (.cells #[.string r.f0, .slice A3 r.f1.length c3, .slice A2 r.f2.length c2] 31 (0, 0)) = w6 at *
              generalize wr.heap.size = g13 at *
              have k2 : w6.cell? ⟨g13, 2, none⟩ = some (.slice A2 r.f2.length c2) := (blk_cell HL4.out.2.1 2).trans rfl
              go_wp2
              clear k2
              go_loopw [42] (fun v42 w' => ∃ m : Nat, m ≤ r.f2.length ∧ v42 = .int .i64 m ∧ Aside0 (LeafAt g11 ((List.range m).foldl (pickKey r g s) x0) wn w' ∧ w'.heap[g13]? = some (.cells #[.string r.f0, .slice A3 r.f1.length c3, .slice A2 r.f2.length c2] 31 (0, 0)) ∧ g11 < g13)) (fun v42 _ => r.f2.length - (intOf v42).toNat)
              case atStart => exact ⟨0, by omega, rfl, HL4⟩
              case round =>
                clear HL4
                obtain ⟨m, hmle, rfl, HL4⟩ := hrel
                by_cases hlt4 : m < r.f2.length
                · have hb3 : Below w.heap.size w wr := below_low HWN.out.1 HL4.out.1.2 HWN.out.2
                  obtain ⟨a2, ea2, hs2⟩ := Kd.at_string (Kd.C_below HC2.out hb3) (m : Int) (by omega) (by omega)
                  cases ea2
                  rw [Int.toNat_natCast] at hs2
                  have e1 : rdOf ByteArray.empty r.f2 (m : Int) = r.f2.getD m ⟨#[]⟩ := by rw [rdOf, Int.toNat_natCast]; rfl
                  rw [e1] at hs2
                  obtain ⟨a3, n3, ea3, hv, hn3⟩ : ∃ a3 n3, A3 = some a3 ∧ wr.cell? (a3.add m) = some (.int .u64 n3) ∧ n3 = r.f1.getD m 0 := by
                    obtain ⟨a3, ea3, h⟩ := Kd.at_int (Kd.C_below HC1.out hb3) (m : Int) (by omega) (by have := HFR.out; omega)
                    rw [Int.toNat_natCast] at h
                    exact ⟨a3, _, ea3, h, by rw [rd, Int.toNat_natCast]⟩
                  cases ea3
                  have k0 : wr.cell? ⟨g13, 0, none⟩ = some (.string r.f0) := (blk_cell HL4.out.2.1 0).trans rfl
                  have k1 : wr.cell? ⟨g13, 1, none⟩ = some (.slice (some a3) r.f1.length c3) := (blk_cell HL4.out.2.1 1).trans rfl
                  have hm1 : (m : Int) < (r.f1.length : Int) := by have := HFR.out; omega
                  have HPK : Aside0 ((List.range (m + 1)).foldl (pickKey r g s) x0 = pickKey r g s ((List.range m).foldl (pickKey r g s) x0) m) := ⟨by rw [List.range_succ, List.foldl_append]; rfl⟩
                  have HPV : Aside0 (valF n3 = valF (r.f1.getD m 0)) := ⟨by rw [hn3]⟩
                  obtain ⟨b1, hb1⟩ : ∃ b, (r.f0.toList == g.toList) = b := ⟨_, rfl⟩
                  obtain ⟨b2, hb2⟩ : ∃ b, ((r.f2.getD m ⟨#[]⟩).toList == s.toList) = b := ⟨_, rfl⟩
                  have HP2 : Aside0 (pickKey r g s ((List.range m).foldl (pickKey r g s) x0) m = if (b1 && b2) = true then floatN s (valF n3) else (List.range m).foldl (pickKey r g s) x0) := ⟨by unfold pickKey; rw [hb1, hb2, HPV.out]⟩
                  clear hn3 e1 hb3
                  generalize r.f2.getD m ⟨#[]⟩ = s2 at *
                  cases b1
                  · clear hb2
                    go_wp2
                    go_roundw
                    case measure => simp [intOf]; omega
                    case rel => exact ⟨m + 1, by omega, by go_num, ⟨by rw [HPK.out, HP2.out]; exact HL4.out.1, HL4.out.2⟩⟩
                  · cases b2
                    · go_wp2
                      go_roundw
                      case measure => simp [intOf]; omega
                      case rel => exact ⟨m + 1, by omega, by go_num, ⟨by rw [HPK.out, HP2.out]; exact HL4.out.1, HL4.out.2⟩⟩
                    · generalize (List.range m).foldl (pickKey r g s) x0 = xx at *
                      have hvw : floatOfInt FloatKind.f64 (wrap64 n3) = valF n3 := by unfold valF; rw [sg_wrap]
                      go_wp2_with (go_at_call 31; (try rw [hvw]); refine (floatX s (valF n3) _).mono ?_; rintro e w7 ⟨rfl, hB7⟩; have HL5 : Aside0 (LeafAt g11 xx wn w7 ∧ w7.heap[g13]? = some (.cells #[.string r.f0, .slice (some a3) r.f1.length c3, .slice (some a2) r.f2.length c2] 31 (0, 0)) ∧ g11 < g13) := ⟨HL4.out.1.below hB7, blk_below HL4.out.2.1 hB7, HL4.out.2.2⟩; clear hB7; have z0 : ∀ j, w7.cell? ⟨g11, j, none⟩ = (#[.string xx.f0, .int .i64 xx.f1, .bool xx.f2, .int .i64 xx.f3, .int .u64 xx.f4, .float .f64 xx.f5, .string xx.f6, .slice none 0 0] : Array Value)[j]? := fun j => blk_cell HL5.out.1.1 j; have f0 : ∀ j, w7.frozen? ⟨g11, j, none⟩ = false := fun j => blk_frozen HL5.out.1.1 j; unfold cells8 floatN)
                      go_roundw
                      case measure => simp [intOf]; omega
                      case rel => exact ⟨m + 1, by omega, by go_num, ⟨by rw [HPK.out, HP2.out]; exact ⟨put8 HL5.out.1.1 _ _ _ _ _ _ _ _, below_putB HL5.out.1.2 (Nat.le_refl _) _ _ _ _ _ _ _ _⟩, (far8 (by have := HL5.out.2.2; omega) _ _ _ _ _ _ _ _).trans HL5.out.2.1, HL5.out.2.2⟩⟩
                · go_wp2
                  go_roundw
                  case measure => simp [intOf]; omega
                  case rel =>
                    obtain rfl : m = r.f2.length := by omega
                    exact ⟨q + 1, by omega, by go_num, ⟨by rw [HRT.out]; exact HL4.out.1⟩⟩
            · obtain rfl : q = l.length := by omega
              have HY0 : Aside0 (LeafAt g11 (leafOf l g s) wn wr) := ⟨by have := HLA.out; rwa [List.take_of_length_le (Nat.le_refl _)] at this⟩
              have HYL := Aside0.mk (leafOf_leaf l g s)
              clear HLA
              generalize leafOf l g s = y at *
              have z0 : ∀ j, wr.cell? ⟨g11, j, none⟩ = (#[.string y.f0, .int .i64 y.f1, .bool y.f2, .int .i64 y.f3, .int .u64 y.f4, .float .f64 y.f5, .string y.f6, .slice none 0 0] : Array Value)[j]? := fun j => blk_cell HY0.out.1 j
              have HN5 : Aside0 (Kd.N k39 39 wr w4.heap.size (fun k => w4.heap.size ≤ k) u8 ((kidsOf l g).take j) ∧ Below w4.heap.size w4 wr) := ⟨Kd.N_below (Kd.N_below HL2.out.1 HWN2.out.2.1) (below_low (Below.refl _ _) HY0.out.2 (by rw [hg11.out]; exact Nat.le_refl _)), below_low (below_low HL2.out.2 HWN2.out.2.1 HL2.out.2.size) HY0.out.2 HWN2.out.1⟩
              clear HL2
              go_wp2_with ((with_reducible refine gate_builtin (b := .append) (xs := #[.tmp 67, .tmp 69]) rfl ?_); at_builtin; refine Kd.N_append k39 (w0 := w4) w4.heap.size rfl (.tmp 67) (.tmp 69) 37 39 (.agg #[(.string ⟨#[]⟩), (.int .i64 0), (.bool false), (.int .i64 0), (.int .u64 0), (.float .f64 0), (.string ⟨#[]⟩), (.slice none 0 0)]) 96 rfl Tryz.underlying37 info39 rfl (by decide) (by omega) u8 ((kidsOf l g).take j) y (cells8 y none 0 0).toList (fun k => w4.heap.size ≤ k) (fun _ => False) rfl rfl ?aP ?aK ?aF ?aO ?aB ?aS ?aL ?_; (case aP => exact leaf_FK _ _ y HYL.out); (case aK => exact fun k hk => hk.elim); (case aF => exact fun k hk => Nat.le_trans HN5.out.2.size hk); (case aO => exact HN5.out.1); (case aB => exact HN5.out.2); (case aS => exact HN5.out.2.size); (case aL => rw [List.length_take]; omega); intro v1 w9 ho hb hg hat; have HN6 : Aside0 (Kd.N k39 39 w9 w4.heap.size (fun k => w4.heap.size ≤ k) v1 ((kidsOf l g).take (j + 1)) ∧ Below w4.heap.size w4 w9) := ⟨by rw [HK2.out]; exact ho, hb⟩; clear ho hb hg hat HN5 HY0 z0)
              go_roundw
              case measure => simp [intOf]; omega
              case rel => exact ⟨j + 1, by omega, by go_num, HN6⟩
        · obtain rfl : j = (netNames g).length := by omega
          have HL3 : Aside0 (Kd.N k39 39 wr w4.heap.size (fun k => w4.heap.size ≤ k) u8 (kidsOf l g) ∧ Below w4.heap.size w4 wr) := ⟨by have := HL2.out.1; rwa [List.take_of_length_le (by simp [kidsOf])] at this, HL2.out.2⟩
          clear HL2
          obtain ⟨A8, c8, rfl⟩ := Kd.N_slice HL3.out.1
          have HKL : Aside0 ((kidsOf l g).length ≤ c8 ∧ (kidsOf l g).length ≤ 123) := ⟨(Kd.N_reads' HL3.out.1).2.1, by simp only [kidsOf, List.length_map]; omega⟩
          go_wp2_with (first | (go_at_call 32; refine (recX g A8 (kidsOf l g).length c8 (kidsOf l g) wr).mono ?_; rintro e w7 ⟨rfl, hB7⟩; have HL7 : Aside0 (Kd.F k39 w7 (fun k => w4.heap.size ≤ k) A8 (kidsOf l g).length (kidsOf l g) ∧ Below w4.heap.size w4 w7) := ⟨Kd.F_below (Kd.N_F HL3.out.1) hB7, below_step HL3.out.2 hB7⟩; clear hB7; unfold cells8 recN) | ((with_reducible refine gate_builtin (b := .append) (xs := #[.tmp 72, .tmp 76]) rfl ?_); at_builtin; refine Kd.N_append k39 (w0 := w) w.heap.size rfl (.tmp 72) (.tmp 76) 37 39 (.agg #[(.string ⟨#[]⟩), (.int .i64 0), (.bool false), (.int .i64 0), (.int .u64 0), (.float .f64 0), (.string ⟨#[]⟩), (.slice none 0 0)]) 96 rfl Tryz.underlying37 info39 rfl (by decide) (by omega) u5 ((treeKids l).take (i + 1)) (recN g (kidsOf l g)) (cells8 (recN g (kidsOf l g)) A8 (kidsOf l g).length c8).toList (fun k => w.heap.size + 1 ≤ k) (fun k => w4.heap.size ≤ k) rfl rfl ?aP ?aK ?aF ?aO ?aB ?aS ?aL ?_; (case aP => exact k39_mkF w7 _ (recN g (kidsOf l g)) HKL.out.1 HL7.out.1); (case aK => exact fun k hk => ⟨by have := blk_lt HT4.out.2.1; omega, fun he => by have := Kd.N_lt HT4.out.1 k he.symm; omega⟩); (case aF => exact fun k hk => by have := blk_lt HT4.out.2.1; have := HL7.out.2.size; omega); (case aO => exact Kd.N_below HT4.out.1 HL7.out.2); (case aB => exact below_step HT4.out.2.2 HL7.out.2); (case aS => exact (below_step HT4.out.2.2 HL7.out.2).size); (case aL => rw [List.length_take]; omega); intro v1 w9 ho hb hg hat; have HT9 : Aside0 (Kd.N k39 39 w9 w.heap.size (fun k => w.heap.size + 1 ≤ k) v1 ((treeKids l).take (i + 1 + 1)) ∧ w9.heap[w.heap.size]? = some (.cells zero8 39 (0, 0)) ∧ Below w.heap.size w w9) := ⟨by rw [HKT.out]; exact ho, blk_grown (blk_below HT4.out.2.1 HL7.out.2) hg (Kd.N_away HT4.out.1 (fun k hk => by show k ≠ w.heap.size; omega)), hb⟩; clear ho hb hg hat HT4))
          go_roundw
          case measure => simp [intOf]; omega
          case rel => exact ⟨i + 1, by omega, by go_num, HT9⟩
    · obtain rfl : i = 2 := by omega
      have HN : Aside0 (Kd.N k39 39 wr w.heap.size (fun k => w.heap.size + 1 ≤ k) u5 (treeKids l)) := ⟨by have := HT.out.1; rwa [List.take_of_length_le (by simp [treeKids, netGroups])] at this⟩
      obtain ⟨A7, c7, rfl⟩ := Kd.N_slice HN.out
      have HNL : Aside0 ((treeKids l).length ≤ c7) := ⟨(Kd.N_reads' HN.out).2.1⟩
      go_wp2_with fail
      refine (recX ⟨#[]⟩ A7 (treeKids l).length c7 (treeKids l) wr).mono ?_
      rintro e w9 ⟨rfl, hB9⟩
      have HZ9 := Aside0.mk (blk_below HT.out.2.1 hB9)
      have HB9 := Aside0.mk (below_step HT.out.2.2 hB9)
      have HN9 := Aside0.mk (Kd.N_below HN.out hB9)
      clear hB9
      have z0 : ∀ j, w9.cell? ⟨w.heap.size, j, none⟩ = (#[.string ⟨#[]⟩, .int .i64 0, .bool false, .int .i64 0, .int .u64 0, .float .f64 0, .string ⟨#[]⟩, .slice none 0 0] : Array Value)[j]? := fun j => (blk_cell HZ9.out j)
      have f0 : ∀ j, w9.frozen? ⟨w.heap.size, j, none⟩ = false := fun j => blk_frozen HZ9.out j
      unfold cells8 recN
      go_wp2_with fail
      refine bodyPost_ret (results_cell_row rfl _ _ w.heap.size 39 _ (0, 0) _ rfl (put8 HZ9.out _ _ _ _ _ _ _ _) hu39 rfl (by kernel_rfl)) rfl ?_
      refine ⟨A7, c7, rfl, HNL.out, Kd.F_mono (Kd.V_at (V_put8 (Kd.N_V (base' := 0) HN9.out) (fun k hk => (by show k ≠ w.heap.size; omega)) _ _ _ _ _ _ _ _)).2.2 (fun k hk => by omega), below_putB HB9.out (Nat.le_refl _) _ _ _ _ _ _ _ _⟩
end Go.Proofs.YtabfglmpnkgecaaGreatDoor.X
