/- Which field a key names: plain laws over the names. -/
import Derived.Test.YtabfglmpnkgecaaGreatDoorM07
import Derived.Test.YtabfglmpnkgecaaGreatDoorM11
import Derived.Test.YtabfglmpnkgecaaGreatDoorM01
import Derived.Test.YtabfglmpnkgecaaGreatDoorM05
set_option linter.unusedVariables false
set_option linter.unusedSimpArgs false
namespace Go.Proofs.YtabfglmpnkgecaaGreatDoor.X
open Go.RowKit Go.Proofs.YtabfglmpnkgecaaGreatDoorW.PrintWords Go.Proofs.YtabfglmpnkgecaaGreatDoorW.PrintLast Go.Proofs.YtabfglmpnkgecaaGreatDoorW.PrintMore Go.Proofs.YtabfglmpnkgecaaGreatDoor.Q

/-- The name of a field, by its place among all. -/
def nameAt (q : Nat) : ByteArray := if q < 123 then tcpNames.getD q ⟨#[]⟩ else ipNames.getD (q - 123) ⟨#[]⟩
def grpAt (q : Nat) : List UInt8 := if q < 123 then tcpL else ipL
/-- What key i of row r sets. -/
def stepM (r : S31) (M : Nat → Option Nat) (i : Nat) : Nat → Option Nat := fun q =>
  if grpAt q = r.f0.toList ∧ (nameAt q).toList = (r.f2.getD i ⟨#[]⟩).toList then some (valF (r.f1.getD i 0)) else M q
theorem StP.congr {b : Nat} {M M' : Nat → Option Nat} {W : World} (h : StP b M W) (he : ∀ q, q < 141 → M q = M' q) : StP b M' W := by
  obtain ⟨cs, h1, h2, h3, h4⟩ := h
  exact ⟨cs, h1, h2, h3, fun j hj => by obtain ⟨v, hv, hp⟩ := h4 j hj; exact ⟨v, hv, he j hj ▸ hp⟩⟩
set_option maxRecDepth 100000 in
theorem tcp_find : ∀ n ∈ tcpNames, (∀ x ∈ unreadNames, x.data.toList ≠ n.data.toList) → ∃ x, tcpArms.find? (fun y => n.data.toList == y.key.data.toList) = some x ∧ x.j < 123 ∧ (tcpNames.getD x.j ⟨#[]⟩).data.toList = n.data.toList := by
  have h : tcpNames.all (fun n => unreadNames.any (fun x => x.data.toList == n.data.toList) || match tcpArms.find? (fun y => n.data.toList == y.key.data.toList) with | some x => decide (x.j < 123) && ((tcpNames.getD x.j ⟨#[]⟩).data.toList == n.data.toList) | none => false) = true := by decide +kernel
  intro n hn hu
  have h1 := List.all_eq_true.1 h n hn
  have h2 : unreadNames.any (fun x => x.data.toList == n.data.toList) = false := by
    rw [List.any_eq_false]
    intro x hx
    simpa using hu x hx
  rw [h2, Bool.false_or] at h1
  cases hf : tcpArms.find? (fun y => n.data.toList == y.key.data.toList) with
  | none => rw [hf] at h1; cases h1
  | some x =>
    rw [hf] at h1
    simp only [Bool.and_eq_true, decide_eq_true_eq, beq_iff_eq] at h1
    exact ⟨x, rfl, h1.1, h1.2⟩
set_option maxRecDepth 100000 in
theorem ip_find : ∀ n ∈ ipNames, ∃ x, ipArms.find? (fun y => n.data.toList == y.key.data.toList) = some x ∧ x.j < 18 ∧ (ipNames.getD x.j ⟨#[]⟩).data.toList = n.data.toList := by
  have h : ipNames.all (fun n => match ipArms.find? (fun y => n.data.toList == y.key.data.toList) with | some x => decide (x.j < 18) && ((ipNames.getD x.j ⟨#[]⟩).data.toList == n.data.toList) | none => false) = true := by decide +kernel
  intro n hn
  have h1 := List.all_eq_true.1 h n hn
  cases hf : ipArms.find? (fun y => n.data.toList == y.key.data.toList) with
  | none => rw [hf] at h1; cases h1
  | some x =>
    rw [hf] at h1
    simp only [Bool.and_eq_true, decide_eq_true_eq, beq_iff_eq] at h1
    exact ⟨x, rfl, h1.1, h1.2⟩
set_option maxRecDepth 100000 in
theorem tcp_apart : ∀ i, i < 123 → ∀ j, j < 123 → (tcpNames.getD i ⟨#[]⟩).data.toList = (tcpNames.getD j ⟨#[]⟩).data.toList → i = j := by
  have h : (List.range 123).all (fun i => (List.range 123).all (fun j => decide (i = j) || !((tcpNames.getD i ⟨#[]⟩).data.toList == (tcpNames.getD j ⟨#[]⟩).data.toList))) = true := by decide +kernel
  intro i hi j hj he
  have h1 := List.all_eq_true.1 (List.all_eq_true.1 h i (List.mem_range.2 hi)) j (List.mem_range.2 hj)
  rw [he] at h1
  simpa using h1
set_option maxRecDepth 100000 in
theorem ip_apart : ∀ i, i < 18 → ∀ j, j < 18 → (ipNames.getD i ⟨#[]⟩).data.toList = (ipNames.getD j ⟨#[]⟩).data.toList → i = j := by
  have h : (List.range 18).all (fun i => (List.range 18).all (fun j => decide (i = j) || !((ipNames.getD i ⟨#[]⟩).data.toList == (ipNames.getD j ⟨#[]⟩).data.toList))) = true := by decide +kernel
  intro i hi j hj he
  have h1 := List.all_eq_true.1 (List.all_eq_true.1 h i (List.mem_range.2 hi)) j (List.mem_range.2 hj)
  rw [he] at h1
  simpa using h1
theorem info52 : (Tryz.prog.info? 52).map (·.size) = some 1 := by kernel_rfl
theorem fieldAt_of {T : TypeId} {fs : Array Field} (hu : Tryz.prog.underlying T = some (.struct fs)) (n : Nat) (h : (List.range n).all (fun j => (fs[j]?).map (fun f => (f.offset, f.type)) == some (j, 52)) = true) : ∀ j, j < n → FieldAt T j j := by
  intro j hj
  have h1 := List.all_eq_true.1 h j (List.mem_range.2 hj)
  simp only [beq_iff_eq] at h1
  cases hf : fs[j]? with
  | none => rw [hf] at h1; cases h1
  | some f =>
    rw [hf] at h1
    simp only [Option.map_some, Option.some.injEq, Prod.mk.injEq] at h1
    exact ⟨fs, f, 0, hu, hf, h1.1, by rw [h1.2]; exact info52⟩
set_option maxRecDepth 100000 in
theorem tcp_field : ∀ j, j < 123 → FieldAt 54 j j := fieldAt_of Tryz.underlying54 123 (by decide +kernel)
set_option maxRecDepth 100000 in
theorem ip_field : ∀ j, j < 18 → FieldAt 56 j j := fieldAt_of Tryz.underlying56 18 (by decide +kernel)
theorem net_field1 : FieldAt 58 1 1 := ⟨_, _, 122, Tryz.underlying58, rfl, rfl, by kernel_rfl⟩
theorem net_field2 : FieldAt 58 2 124 := ⟨_, _, 17, Tryz.underlying58, rfl, rfl, by kernel_rfl⟩
theorem ip_ne_tcp : ipL ≠ tcpL := by decide
/-- A fine key of the first group: its arm, and what the arm sets. -/
theorem key_tcp (r : S31) (i : Nat) (h0 : r.f0.toList = tcpL) (hk : FineKey r i) : ∃ x, tcpArms.find? (fun y => (r.f2.getD i ⟨#[]⟩).toList == y.key.toList) = some x ∧ x.j < 123 ∧ ∀ M q, q < 141 → setM M x.j (valF (r.f1.getD i 0)) q = stepM r M i q := by
  obtain ⟨⟨n, hn, he⟩, _, hu, _⟩ := hk
  rw [netNames, if_pos h0] at hn
  have he' : n.data.toList = (r.f2.getD i ⟨#[]⟩).data.toList := by rw [← ByteArray.toList_eq, ← ByteArray.toList_eq, he]
  obtain ⟨x, h1, h2, h3⟩ := tcp_find n hn (fun y hy => by
    have := hu h0 y hy
    rw [ByteArray.toList_eq, ByteArray.toList_eq, ← he'] at this
    exact this)
  refine ⟨x, ?_, h2, fun M q hq => ?_⟩
  · simp only [ByteArray.toList_eq]
    rw [← he']; exact h1
  · unfold setM stepM
    by_cases c : q = x.j
    · subst c
      rw [if_pos rfl, if_pos ⟨by rw [grpAt, if_pos h2, h0], by rw [nameAt, if_pos h2, ByteArray.toList_eq, ByteArray.toList_eq, h3, he']⟩]
    · rw [if_neg c, if_neg]
      rintro ⟨g1, g2⟩
      unfold grpAt at g1
      split at g1
      · rename_i hlt
        rw [nameAt, if_pos hlt, ByteArray.toList_eq, ByteArray.toList_eq, ← he', ← h3] at g2
        exact c (tcp_apart q hlt x.j h2 g2)
      · exact ip_ne_tcp (g1.trans h0)
theorem key_ip (r : S31) (i : Nat) (h0 : r.f0.toList = ipL) (hk : FineKey r i) : ∃ x, ipArms.find? (fun y => (r.f2.getD i ⟨#[]⟩).toList == y.key.toList) = some x ∧ x.j < 18 ∧ ∀ M q, q < 141 → setM M (123 + x.j) (valF (r.f1.getD i 0)) q = stepM r M i q := by
  obtain ⟨⟨n, hn, he⟩, _⟩ := hk
  rw [netNames, if_neg (by rw [h0]; exact ip_ne_tcp)] at hn
  have he' : n.data.toList = (r.f2.getD i ⟨#[]⟩).data.toList := by rw [← ByteArray.toList_eq, ← ByteArray.toList_eq, he]
  obtain ⟨x, h1, h2, h3⟩ := ip_find n hn
  refine ⟨x, ?_, h2, fun M q hq => ?_⟩
  · simp only [ByteArray.toList_eq]
    rw [← he']; exact h1
  · unfold setM stepM
    by_cases c : q = 123 + x.j
    · subst c
      rw [if_pos rfl, if_pos ⟨by rw [grpAt, if_neg (by omega), h0], by rw [nameAt, if_neg (by omega), ByteArray.toList_eq, ByteArray.toList_eq, Nat.add_sub_cancel_left, h3, he']⟩]
    · rw [if_neg c, if_neg]
      rintro ⟨g1, g2⟩
      unfold grpAt at g1
      split at g1
      · exact ip_ne_tcp (g1.trans h0).symm
      · rename_i hlt
        rw [nameAt, if_neg hlt, ByteArray.toList_eq, ByteArray.toList_eq, ← he', ← h3] at g2
        have := ip_apart (q - 123) (by omega) x.j h2 g2
        omega
end Go.Proofs.YtabfglmpnkgecaaGreatDoor.X

/- One key of parseProcNetstat, by law. -/
namespace Go.Proofs.YtabfglmpnkgecaaGreatDoor.X
open Go.RowKit Go.Proofs.YtabfglmpnkgecaaGreatDoorW.PrintWords Go.Proofs.YtabfglmpnkgecaaGreatDoorW.PrintLast Go.Proofs.YtabfglmpnkgecaaGreatDoorW.PrintMore Go.Proofs.YtabfglmpnkgecaaGreatDoor.Q

/-- Of the blocks that were there, b alone has turned. -/
def Only (b : Nat) (w W : World) : Prop := Below b w W ∧ ∀ k, k < w.heap.size → k ≠ b → W.heap[k]? = w.heap[k]?
theorem Only.refl (b : Nat) (w : World) : Only b w w := ⟨Below.refl b w, fun _ _ _ => rfl⟩
theorem Only.size {b : Nat} {w W : World} (h : Only b w W) : w.heap.size ≤ W.heap.size := h.1.size
theorem Only.below {b : Nat} {w W W' : World} (h : Only b w W) (hb : Below W.heap.size W W') (hlt : b < w.heap.size) : Only b w W' :=
  ⟨below_low h.1 hb (by have := h.size; omega), fun k hk hne => (hb.block k (by have := h.size; omega)).trans (h.2 k hk hne)⟩
theorem Only.set {b : Nat} {w W : World} (h : Only b w W) (c o : Nat) (v : Value) (hc : c = b ∨ w.heap.size ≤ c) (hlt : b < w.heap.size) : Only b w (W.setCell ⟨c, o, none⟩ v) :=
  ⟨by apply Below.setCell h.1; show b ≤ c; omega, fun k hk hne => (Below.heap_setCell W ⟨c, o, none⟩ v k (by show k ≠ c; omega)).trans (h.2 k hk hne)⟩
theorem vars_only {b : Nat} {w W : World} (h : VarsW w) (ho : Only b w W) (hb : 11 < b) (hlt : b < w.heap.size) : VarsW W := by
  obtain ⟨h1, h2, h3, h4⟩ := h
  have e : ∀ k, k ≤ 11 → W.heap[k]? = w.heap[k]? := fun k hk => ho.2 k (by omega) (by omega)
  exact ⟨(World.cell?_of_block (e 6 (by omega))).trans h1, (World.cell?_of_block (e 7 (by omega))).trans h2, (World.cell?_of_block (e 11 (by omega))).trans h3, (World.cell?_of_block (e 11 (by omega))).trans h4⟩
theorem F_only {b : Nat} {w W : World} {A : Option Addr} {n : Nat} {xs : List ByteArray} (h : Kd.F Kd.string w (fun k => b < k) A n xs) (ho : Only b w W) : Kd.F Kd.string W (fun k => b < k) A n xs :=
  Kd.F_step h (fun k hk hlt => ho.2 k hlt (by omega))
/-- What a round keeps of its slots. -/
def Keep (a0 a : Act) : Prop := a.tmps.size = 559 ∧ a.defers = a0.defers ∧ ∀ t : Nat, 4 ≤ t → t ≤ 10 → a.eval (.tmp t) = a0.eval (.tmp t)
theorem Keep.same {a0 a a' : Act} (h : Keep a0 a) (hz : a'.tmps.size = a.tmps.size) (hd : a'.defers = a.defers) (he : ∀ t : Nat, 4 ≤ t → t ≤ 10 → a'.eval (.tmp t) = a.eval (.tmp t)) : Keep a0 a' :=
  ⟨hz.trans h.1, hd.trans h.2.1, fun t h1 h2 => (he t h1 h2).trans (h.2.2 t h1 h2)⟩
theorem Keep.put {a0 a : Act} (h : Keep a0 a) {s : Nat} (hs : 10 < s) (v : Value) : Keep a0 (a.put (some s) v) := h.same size_put defers_put (fun t _ h2 => ev_other (by omega))
theorem at_str {w : World} {ok : Nat → Prop} {A : Option Addr} {n : Nat} {xs : List ByteArray} (h : Kd.F Kd.string w ok A n xs) (hl : xs.length = n) (i : Nat) (hi : i < n) : ∃ ad, A = some ad ∧ w.cell? (ad.add i) = some (.string (xs.getD i ⟨#[]⟩)) := by
  obtain ⟨ad, h1, h2⟩ := Kd.at_string (h w (fun _ _ _ => rfl)) (i : Int) (by omega) (by omega)
  refine ⟨ad, h1, ?_⟩
  rw [rdOf, Int.toNat_natCast] at h2
  exact h2
/-- The text of a number. -/
def valT (n : Int) : ByteArray := ⟨(sgL (sg n)).toArray⟩
set_option maxRecDepth 100000 in
set_option maxHeartbeats 4000000 in
theorem key_wp (r : S31) (hr : FineRow r) (i : Nat) (hi : i < r.f2.length) (P : ByteArray) (b7 : Nat) (h11 : 11 < b7) (a0 : Act) (W0 : World) (hlt : b7 < W0.heap.size) (hv : VarsW W0) (A8 A9 : Option Addr) (c8 c9 : Nat)
    (e7 : a0.eval (.tmp 7) = .pointer (some ⟨b7, 0, none⟩)) (e8 : a0.eval (.tmp 8) = .slice A8 (r.f2.length + 1) c8) (e9 : a0.eval (.tmp 9) = .slice A9 (r.f2.length + 1) c9) (e10 : a0.eval (.tmp 10) = .string r.f0)
    (F8 : Kd.F Kd.string W0 (fun k => b7 < k) A8 (r.f2.length + 1) (P :: r.f2)) (F9 : Kd.F Kd.string W0 (fun k => b7 < k) A9 (r.f2.length + 1) (P :: r.f1.map valT))
    (M : Nat → Option Nat) (a : Act) (W : World) (hK : Keep a0 a) (hO : Only b7 W0 W) (hS : StP b7 M W) (e11 : a.eval (.tmp 11) = .int .i64 ((i + 1 : Nat) : Int)) (Q : Exit → Act → World → Prop)
    (k : ∀ (a' : Act) (W' : World), Keep a0 a' → a'.eval (.tmp 11) = .int .i64 ((i + 1 : Nat) : Int) → Only b7 W0 W' → StP b7 (stepM r M i) W' → Q .normal a' W') : keyCode.wp Tryz.prog Q a W := by
  obtain ⟨hr0, hr1, hr2, hr3⟩ := hr
  have hfk := hr3 i hi
  obtain ⟨ad8, rfl, hc8⟩ := at_str (F_only F8 hO) (by simp) (i + 1) (by omega)
  obtain ⟨ad9, rfl, hc9⟩ := at_str (F_only F9 hO) (by simp [hr2]) (i + 1) (by omega)
  rw [show (P :: r.f2).getD (i + 1) ⟨#[]⟩ = r.f2.getD i ⟨#[]⟩ from rfl] at hc8
  rw [show (P :: r.f1.map valT).getD (i + 1) ⟨#[]⟩ = valT (r.f1.getD i 0) by
    have h : i < r.f1.length := by omega
    simp [List.getD_eq_getElem?_getD, h]] at hc9
  have hbnd := hfk.2.2.2
  have hkz : a.tmps.size = 559 := hK.1
  have z7 := (hK.2.2 7 (by omega) (by omega)).trans e7
  have z8 := (hK.2.2 8 (by omega) (by omega)).trans e8
  have z9 := (hK.2.2 9 (by omega) (by omega)).trans e9
  have z10 := (hK.2.2 10 (by omega) (by omega)).trans e10
  unfold keyCode
  refine wp_block ?_
  refine wp_seq (wp_region_lit ?_)
  unfold reg13
  refine Kd.event_run rfl (o_move _ _ _ _ _ _ _ _ z9) ?_
  refine Kd.event_run rfl (o_move _ _ _ _ _ _ (.int .i64 ((i + 1 : Nat) : Int)) _ (by simp only [mkO]; rw [ev_other (by omega)]; exact e11)) ?_
  refine Kd.event_run rfl (o_index _ _ _ _ _ _ ad9 _ c9 (i + 1) _ (by simp only [mkO]; rw [ev_other (by omega), ev_same (by omega)]) (by simp only [mkO]; rw [ev_same (by simp only [size_put]; omega)]) (by omega)) ?_
  refine Kd.event_run rfl (o_load9 _ _ _ _ _ _ _ _ (by simp only [mkO]; rw [ev_same (by simp only [size_put]; omega)]) hc9) ?_
  refine goesL_ (some 50) rfl rfl Tryz.func53 (by kernel_rfl) (by kernel_rfl) #[.string (valT (r.f1.getD i 0)), .int .i64 64] rfl ?_ ?_
  · simp only [mkO, List.map_toArray, List.map_cons, List.map_nil]
    rw [ev_same (by simp only [size_put]; omega)]
    rfl
  refine (parseFloat_calls (sg (r.f1.getD i 0)) hbnd.1 hbnd.2 (valT (r.f1.getD i 0)) rfl W (vars_only hv hO h11 hlt) (by have := hO.size; omega)).mono ?_
  rintro e W1 ⟨rfl, hB1⟩
  refine ⟨_, rfl, ?_⟩
  rw [show floatOfInt .f64 (sg (r.f1.getD i 0)) = valF (r.f1.getD i 0) from rfl]
  have hO1 := hO.below hB1 hlt
  have hS1 := hS.below hB1
  have hc81 : W1.cell? (ad8.add (i + 1)) = some (.string (r.f2.getD i ⟨#[]⟩)) := (World.cell?_of_block (hB1.block _ (World.block_lt_of_cell? W _ hc8))).trans hc8
  refine Kd.event_run rfl (o_move _ _ _ _ _ _ (.tuple #[.float .f64 (valF (r.f1.getD i 0)), .nilIface]) _ (by simp only [mkO]; rw [ev_same (by simp only [size_put]; omega)])) ?_
  refine Kd.event_run rfl (o_extract _ _ _ _ _ 0 _ #[.float .f64 (valF (r.f1.getD i 0)), .nilIface] (.float .f64 (valF (r.f1.getD i 0))) _ (by simp only [mkO]; rw [ev_same (by simp only [size_put]; omega)]) rfl) ?_
  refine Kd.event_run rfl (o_extract _ _ _ _ _ 1 _ #[.float .f64 (valF (r.f1.getD i 0)), .nilIface] .nilIface _ (by simp only [mkO]; rw [ev_other (by omega), ev_same (by simp only [size_put]; omega)]) rfl) ?_
  refine Kd.event_run rfl (o_allocF _ _ _ _ _) ?_
  have hnew := blk_new W1 (.cells #[.float .f64 0] 36 (0, 0))
  have hBa := below_alloc (Below.refl W1.heap.size W1) (.cells #[.float .f64 0] 36 (0, 0))
  have hO2 := hO1.below hBa hlt
  have hS2 := hS1.below hBa
  have hc82 : (W1.alloc (.cells #[.float .f64 0] 36 (0, 0))).cell? (ad8.add (i + 1)) = some (.string (r.f2.getD i ⟨#[]⟩)) := (World.cell?_of_block (hBa.block _ (World.block_lt_of_cell? W1 _ hc81))).trans hc81
  have hg8 : (ad8.add (i + 1)).block ≠ W1.heap.size := by have := World.block_lt_of_cell? W1 _ hc81; omega
  refine event_skip rfl rfl (o_storeF _ W1.heap.size _ _ _ _ (valF (r.f1.getD i 0)) 0 _ (by simp only [mkO]; rw [ev_same (by simp only [size_put]; omega)]) (by simp only [mkO]; rw [ev_other (by omega), ev_other (by omega), ev_same (by simp only [size_put]; omega)]) hnew) ?_
  have hx : ((W1.alloc (.cells #[.float .f64 0] 36 (0, 0))).setCell ⟨W1.heap.size, 0, none⟩ (.float .f64 (valF (r.f1.getD i 0)))).heap[W1.heap.size]? = some (.cells #[.float .f64 (valF (r.f1.getD i 0))] 36 (0, 0)) := blk_put hnew 0 _ rfl
  have hb7g : b7 < W1.heap.size := by have := hO1.size; omega
  have hO3 := hO2.set W1.heap.size 0 (.float .f64 (valF (r.f1.getD i 0))) (.inr hO1.size) hlt
  have hS3 : StP b7 M ((W1.alloc (.cells #[.float .f64 0] 36 (0, 0))).setCell ⟨W1.heap.size, 0, none⟩ (.float .f64 (valF (r.f1.getD i 0)))) := by
    refine hS1.step (fun k _ hk => ?_)
    exact (Below.heap_setCell _ _ _ _ (by show k ≠ W1.heap.size; omega)).trans (hBa.block k hk)
  have hc83 : ((W1.alloc (.cells #[.float .f64 0] 36 (0, 0))).setCell ⟨W1.heap.size, 0, none⟩ (.float .f64 (valF (r.f1.getD i 0)))).cell? (ad8.add (i + 1)) = some (.string (r.f2.getD i ⟨#[]⟩)) := (World.cell?_of_block (Below.heap_setCell _ _ _ _ hg8)).trans hc82
  clear hO hS hO1 hS1 hO2 hS2 hc8 hc81 hc82 hnew hBa hg8 hc9
  generalize ((W1.alloc (.cells #[.float .f64 0] 36 (0, 0))).setCell ⟨W1.heap.size, 0, none⟩ (.float .f64 (valF (r.f1.getD i 0)))) = W3 at *
  refine Kd.event_run rfl (o_assign _ _ _ _ _ _ .nilIface _ (by simp only [mkO]; rw [ev_other (by omega), ev_same (by simp only [size_put]; omega)])) ?_
  refine wpList_nil ?_
  simp only [mkO]
  generalize hga : ((((((((((a.put (some 46) _).put (some 47) _).put (some 48) _).put (some 49) _).put (some 50) _).put (some 45) _).put (some 51) _).put (some 52) _).put (some 12) _).put (some 13) _) = a1
  have K1 : Keep a0 a1 := by
    rw [← hga]
    exact ((((((((((hK.put (by omega) _).put (by omega) _).put (by omega) _).put (by omega) _).put (by omega) _).put (by omega) _).put (by omega) _).put (by omega) _).put (by omega) _).put (by omega) _)
  have y11 : a1.eval (.tmp 11) = .int .i64 ((i + 1 : Nat) : Int) := by
    rw [← hga]
    rw [ev_other (by omega), ev_other (by omega), ev_other (by omega), ev_other (by omega), ev_other (by omega), ev_other (by omega), ev_other (by omega), ev_other (by omega), ev_other (by omega), ev_other (by omega)]
    exact e11
  have y12 : a1.eval (.tmp 12) = .pointer (some ⟨W1.heap.size, 0, none⟩) := by
    rw [← hga, ev_other (by omega), ev_same (by simp only [size_put]; omega)]
  have y13 : a1.eval (.tmp 13) = .nilIface := by
    rw [← hga, ev_same (by simp only [size_put]; omega)]
  have kz1 : a1.tmps.size = 559 := K1.1
  clear hga hK e11 hkz z7 z8 z9 z10 a
  refine wp_seq (wp_seq (wp_region_lit ?_))
  unfold reg14
  refine Kd.event_run rfl (o_move _ _ _ _ _ _ _ _ y13) ?_
  refine Kd.event_run rfl (o_nonil _ _ _ _ _ _ (by simp only [mkO]; rw [ev_same (by omega)])) ?_
  refine wpList_nil ?_
  refine wp_cond_false (by simp only [mkO]; rw [ev_same (by simp only [size_put]; omega)]) (wp_skip ?_)
  refine wp_seq (wp_region_lit ?_)
  unfold reg16
  refine Kd.event_run rfl (o_move _ _ _ _ _ _ (.slice (some ad8) (r.f2.length + 1) c8) _ (by simp only [mkO]; rw [ev_other (by omega), ev_other (by omega)]; exact (K1.2.2 8 (by omega) (by omega)).trans e8)) ?_
  refine Kd.event_run rfl (o_move _ _ _ _ _ _ (.int .i64 ((i + 1 : Nat) : Int)) _ (by simp only [mkO]; rw [ev_other (by omega), ev_other (by omega), ev_other (by omega)]; exact y11)) ?_
  refine Kd.event_run rfl (o_index _ _ _ _ _ _ ad8 _ c8 (i + 1) _ (by simp only [mkO]; rw [ev_other (by omega), ev_same (by simp only [size_put]; omega)]) (by simp only [mkO]; rw [ev_same (by simp only [size_put]; omega)]) (by omega)) ?_
  refine Kd.event_run rfl (o_load9 _ _ _ _ _ _ _ _ (by simp only [mkO]; rw [ev_same (by simp only [size_put]; omega)]) hc83) ?_
  refine Kd.event_run rfl (o_assign _ _ _ _ _ _ (.string (r.f2.getD i ⟨#[]⟩)) _ (by simp only [mkO]; rw [ev_same (by simp only [size_put]; omega)])) ?_
  refine wpList_nil ?_
  refine wp_seq (wp_region_lit ?_)
  unfold reg17
  refine Kd.event_run rfl (o_move _ _ _ _ _ _ (.string r.f0) _ (by simp only [mkO]; rw [ev_other (by omega), ev_other (by omega), ev_other (by omega), ev_other (by omega), ev_other (by omega), ev_other (by omega), ev_other (by omega)]; exact (K1.2.2 10 (by omega) (by omega)).trans e10)) ?_
  refine wpList_nil ?_
  refine wp_block ?_
  refine wp_seq (wp_region_lit ?_)
  unfold reg18
  refine Kd.event_run rfl (o_eqs _ _ _ _ _ r.f0 ⟨#[84, 99, 112, 69, 120, 116]⟩ _ (by simp only [mkO]; rw [ev_same (by simp only [size_put]; omega)])) ?_
  refine Kd.event_run rfl (o_assign _ _ _ _ _ _ (.bool (r.f0.toList == (⟨#[84, 99, 112, 69, 120, 116]⟩ : ByteArray).toList)) _ (by simp only [mkO]; rw [ev_same (by simp only [size_put]; omega)])) ?_
  refine wpList_nil ?_
  simp only [mkO]
  generalize hgb : ((((((((((a1.put (some 53) _).put (some 54) _).put (some 57) _).put (some 58) _).put (some 59) _).put (some 60) _).put (some 14) _).put (some 61) _).put (some 63) _).put (some 62) _) = a2
  have K2 : Keep a0 a2 := by
    rw [← hgb]
    exact ((((((((((K1.put (by omega) _).put (by omega) _).put (by omega) _).put (by omega) _).put (by omega) _).put (by omega) _).put (by omega) _).put (by omega) _).put (by omega) _).put (by omega) _)
  have x11 : a2.eval (.tmp 11) = .int .i64 ((i + 1 : Nat) : Int) := by
    rw [← hgb]
    rw [ev_other (by omega), ev_other (by omega), ev_other (by omega), ev_other (by omega), ev_other (by omega), ev_other (by omega), ev_other (by omega), ev_other (by omega), ev_other (by omega), ev_other (by omega)]
    exact y11
  have x12 : a2.eval (.tmp 12) = .pointer (some ⟨W1.heap.size, 0, none⟩) := by
    rw [← hgb]
    rw [ev_other (by omega), ev_other (by omega), ev_other (by omega), ev_other (by omega), ev_other (by omega), ev_other (by omega), ev_other (by omega), ev_other (by omega), ev_other (by omega), ev_other (by omega)]
    exact y12
  have x14 : a2.eval (.tmp 14) = .string (r.f2.getD i ⟨#[]⟩) := by
    rw [← hgb, ev_other (by omega), ev_other (by omega), ev_other (by omega), ev_same (by simp only [size_put]; omega)]
  have x61 : a2.eval (.tmp 61) = .string r.f0 := by
    rw [← hgb, ev_other (by omega), ev_other (by omega), ev_same (by simp only [size_put]; omega)]
  have x62 : a2.eval (.tmp 62) = .bool (r.f0.toList == (⟨#[84, 99, 112, 69, 120, 116]⟩ : ByteArray).toList) := by
    rw [← hgb, ev_same (by simp only [size_put]; omega)]
  have kz2 : a2.tmps.size = 559 := K2.1
  clear hgb K1 y11 y12 y13 kz1 a1
  have x7 := (K2.2.2 7 (by omega) (by omega)).trans e7
  have htl : (⟨#[84, 99, 112, 69, 120, 116]⟩ : ByteArray).toList = tcpL := by rw [ByteArray.toList_eq]; rfl
  have hil : (⟨#[73, 112, 69, 120, 116]⟩ : ByteArray).toList = ipL := by rw [ByteArray.toList_eq]; rfl
  rw [htl] at x62
  have hcell : ∀ j, j < 141 → ∃ u, W3.cell? ⟨b7, j + 1, none⟩ = some u ∧ W3.frozen? ⟨b7, j + 1, none⟩ = false := by
    obtain ⟨cs, g1, g2, g3, g4⟩ := hS3
    intro j hj
    obtain ⟨v, hv, _⟩ := g4 j hj
    exact ⟨v, (blk_cell g1 _).trans hv, blk_frozen g1 _⟩
  rcases hr0 with h0 | h0
  · rw [h0, beq_self_eq_true] at x62
    obtain ⟨x, hfx, hj, hM⟩ := key_tcp r i h0 hfk
    obtain ⟨u, hc, hfr⟩ := hcell x.j (by omega)
    rw [Nat.add_comm] at hc hfr
    refine wp_cond_true x62 ?_
    refine wp_seq (wp_region_lit ?_)
    unfold reg19
    refine Kd.event_run rfl (o_move _ _ _ _ _ _ _ _ x14) ?_
    refine wpList_nil ?_
    refine wp_block ?_
    simp only [mkO]
    refine arms_wp 64 1 54 1 net_field1 b7 (some ⟨W1.heap.size, 0, none⟩) (r.f2.getD i ⟨#[]⟩) x u (tcp_field x.j hj) W3 hc hfr _ tcpArms 20 65 _ (by omega) (by omega) (by rw [size_put, kz2]; decide) (by rw [ev_other (by omega)]; exact x7) (by rw [ev_other (by omega)]; exact x12) (ev_same (by omega)) hfx ?_
    intro a' q1 q2 q3
    refine k a' _ (K2.same (q1.trans size_put) (q2.trans defers_put) (fun t g1 g2 => (q3 t (by omega)).trans (ev_other (by omega)))) (((q3 11 (by omega)).trans (ev_other (by omega))).trans x11) (hO3.set b7 _ _ (.inl rfl) hlt) ?_
    rw [Nat.add_comm 1 x.j]
    exact (hS3.put x.j W1.heap.size _ (by omega) hb7g hx).congr (hM M)
  · rw [h0, show (ipL == tcpL) = false by decide] at x62
    obtain ⟨x, hfx, hj, hM⟩ := key_ip r i h0 hfk
    obtain ⟨u, hc, hfr⟩ := hcell (123 + x.j) (by omega)
    rw [show 123 + x.j + 1 = 124 + x.j by omega] at hc hfr
    refine wp_cond_false x62 ?_
    refine wp_seq (wp_region_lit ?_)
    unfold reg228
    refine Kd.event_run rfl (o_eqs _ _ _ _ _ r.f0 ⟨#[73, 112, 69, 120, 116]⟩ _ x61) ?_
    refine Kd.event_run rfl (o_assign _ _ _ _ _ _ (.bool true) _ (by simp only [mkO]; rw [ev_same (by omega), hil, h0, beq_self_eq_true])) ?_
    refine wpList_nil ?_
    refine wp_cond_true (by simp only [mkO]; rw [ev_same (by simp only [size_put]; omega)]) ?_
    refine wp_seq (wp_region_lit ?_)
    unfold reg229
    refine Kd.event_run rfl (o_move _ _ _ _ _ _ (.string (r.f2.getD i ⟨#[]⟩)) _ (by simp only [mkO]; rw [ev_other (by omega), ev_other (by omega)]; exact x14)) ?_
    refine wpList_nil ?_
    refine wp_block ?_
    simp only [mkO]
    refine arms_wp 483 2 56 124 net_field2 b7 (some ⟨W1.heap.size, 0, none⟩) (r.f2.getD i ⟨#[]⟩) x u (ip_field x.j hj) W3 hc hfr _ ipArms 230 484 _ (by omega) (by omega) (by rw [size_put, size_put, size_put, kz2]; decide) (by rw [ev_other (by omega), ev_other (by omega), ev_other (by omega)]; exact x7) (by rw [ev_other (by omega), ev_other (by omega), ev_other (by omega)]; exact x12) (ev_same (by simp only [size_put]; omega)) hfx ?_
    intro a' q1 q2 q3
    refine k a' _ (K2.same (q1.trans (by simp only [size_put])) (q2.trans (by simp only [defers_put])) (fun t g1 g2 => (q3 t (by omega)).trans (by rw [ev_other (by omega), ev_other (by omega), ev_other (by omega)]))) (((q3 11 (by omega)).trans (by rw [ev_other (by omega), ev_other (by omega), ev_other (by omega)])).trans x11) (hO3.set b7 _ _ (.inl rfl) hlt) ?_
    rw [show 124 + x.j = (123 + x.j) + 1 by omega]
    exact (hS3.put (123 + x.j) W1.heap.size _ (by omega) hb7g hx).congr (hM M)
end Go.Proofs.YtabfglmpnkgecaaGreatDoor.X

-- Written by a program of this claim's session (after the kit's print, with a kind for float64). Lean checks it.
namespace Go.Proofs.YtabfglmpnkgecaaGreatDoor.Q
open Go.RowKit Go.Proofs.YtabfglmpnkgecaaGreatDoorW.PrintWords Go.Proofs.YtabfglmpnkgecaaGreatDoorW.PrintLast Go.Proofs.YtabfglmpnkgecaaGreatDoorW.PrintMore
attribute [local go_sem] max2_int min2_int max_two min_two max_three min_three max_four min_four   -- for this text's walks alone
set_option linter.unusedVariables false
set_option linter.unusedSimpArgs false

/-! ### stringslite_HasSuffix: function 206 -/
def stringslite_HasSuffix.f (a0 : ByteArray) (a1 : ByteArray) : Option (Bool) := if (a0.size : Int) ≥ (a1.size : Int) then (if 0 ≤ (wrap64 ((a0.size : Int) - (a1.size : Int))) then (if (wrap64 ((a0.size : Int) - (a1.size : Int))) ≤ (a0.size : Int) then (some ((a0.extract ((wrap64 ((a0.size : Int) - (a1.size : Int))) : Int).toNat a0.size).toList == a1.toList)) else (none)) else (none)) else (some false)
set_option maxHeartbeats 8000000 in
set_option maxRecDepth 100000 in
theorem stringslite_HasSuffix.calls (a0 : ByteArray) (a1 : ByteArray) (r : Bool) (w : World) (h : stringslite_HasSuffix.f a0 a1 = some r) :
    Calls Tryz.prog 206 #[.string a0, .string a1] w fun e w' => e = .returned (.bool r) ∧ Drawn0 w w' := by
  have H : (if (a0.size : Int) ≥ (a1.size : Int) then (if 0 ≤ (wrap64 ((a0.size : Int) - (a1.size : Int))) then (if (wrap64 ((a0.size : Int) - (a1.size : Int))) ≤ (a0.size : Int) then (some ((a0.extract ((wrap64 ((a0.size : Int) - (a1.size : Int))) : Int).toNat a0.size).toList == a1.toList)) else (none)) else (none)) else (some false)) = some r := h
  clear h
  by_cases c3 : (a0.size : Int) ≥ (a1.size : Int)
  · rw [if_pos c3] at H
    have c3b0 : decide ((a1.size : Int) ≤ (a0.size : Int)) = true := decide_eq_true c3
    have c3b1 : decide (a1.size ≤ a0.size) = true := decide_eq_true (Int.ofNat_le.mp c3)
    clear c3
    obtain ⟨ji4, hji4⟩ : ∃ j_ : Int, (wrap64 ((a0.size : Int) - (a1.size : Int))) = j_ := ⟨_, rfl⟩
    replace H : (if 0 ≤ (ji4) then (if (ji4) ≤ (a0.size : Int) then (some ((a0.extract ((ji4) : Int).toNat a0.size).toList == a1.toList)) else (none)) else (none)) = some r := by first | (rw [hji4] at H; exact H) | (simp only [hji4] at H ⊢; exact H)
    have hji4w : (IntKind.i64.wrap ((a0.size : Int) - (a1.size : Int))) = ji4 := (i64_w _).trans hji4
    by_cases c5 : 0 ≤ (ji4)
    · rw [if_pos c5] at H
      have c5b0 := eq_true c5
      have c5b1 : decide (0 ≤ (ji4)) = true := decide_eq_true c5
      clear c5
      by_cases c6 : (ji4) ≤ (a0.size : Int)
      · rw [if_pos c6] at H
        have c6b0 := eq_true c6
        have c6b1 : decide ((ji4) ≤ (a0.size : Int)) = true := decide_eq_true c6
        clear c6
        obtain rfl := Option.some.inj H
        go_enter Tryz.func206, Tryz.ntmps206
        go_wp2
        go_ret
        exact ⟨by first | rfl | (simp; done) | (simp only [← hji4] <;> (first | rfl | simp)) | (simp [*]; done), by repeat (first | exact Drawn0.refl _ | apply Drawn0.step)⟩
      · rw [if_neg c6] at H
        exact absurd H (by simp)
    · rw [if_neg c5] at H
      exact absurd H (by simp)
  · rw [if_neg c3] at H
    have c3b0 : decide ((a1.size : Int) ≤ (a0.size : Int)) = false := decide_eq_false c3
    have c3b1 : decide (a1.size ≤ a0.size) = false := decide_eq_false (fun h => c3 (Int.ofNat_le.mpr h))
    clear c3
    obtain rfl := Option.some.inj H
    go_enter Tryz.func206, Tryz.ntmps206
    go_wp2
    go_ret
    exact ⟨by first | rfl | (simp; done) | (simp [*]; done), by repeat (first | exact Drawn0.refl _ | apply Drawn0.step)⟩

end Go.Proofs.YtabfglmpnkgecaaGreatDoor.Q

-- Written by a program of this claim's session (after the kit's print, with a kind for float64). Lean checks it.
namespace Go.Proofs.YtabfglmpnkgecaaGreatDoor.Q
open Go.RowKit Go.Proofs.YtabfglmpnkgecaaGreatDoorW.PrintWords Go.Proofs.YtabfglmpnkgecaaGreatDoorW.PrintLast Go.Proofs.YtabfglmpnkgecaaGreatDoorW.PrintMore
attribute [local go_sem] max2_int min2_int max_two min_two max_three min_three max_four min_four   -- for this text's walks alone
set_option linter.unusedVariables false
set_option linter.unusedSimpArgs false

/-! ### stringslite_TrimSuffix: function 202 -/
def stringslite_TrimSuffix.f (a0 : ByteArray) (a1 : ByteArray) : Option (ByteArray) := (stringslite_HasSuffix.f a0 a1).bind fun t296 => (if t296 = true then (if 0 ≤ (wrap64 ((a0.size : Int) - (a1.size : Int))) then (if (wrap64 ((a0.size : Int) - (a1.size : Int))) ≤ (a0.size : Int) then (some (a0.extract 0 ((wrap64 ((a0.size : Int) - (a1.size : Int))) : Int).toNat)) else (none)) else (none)) else (some a0))
set_option maxHeartbeats 8000000 in
set_option maxRecDepth 100000 in
theorem stringslite_TrimSuffix.calls (a0 : ByteArray) (a1 : ByteArray) (r : ByteArray) (w : World) (h : stringslite_TrimSuffix.f a0 a1 = some r) :
    Calls Tryz.prog 202 #[.string a0, .string a1] w fun e w' => e = .returned (.string r) ∧ Drawn0 w w' := by
  have H : ((stringslite_HasSuffix.f a0 a1).bind fun t296 => (if t296 = true then (if 0 ≤ (wrap64 ((a0.size : Int) - (a1.size : Int))) then (if (wrap64 ((a0.size : Int) - (a1.size : Int))) ≤ (a0.size : Int) then (some (a0.extract 0 ((wrap64 ((a0.size : Int) - (a1.size : Int))) : Int).toNat)) else (none)) else (none)) else (some a0))) = some r := h
  clear h
  replace H := Option.bind_eq_some_iff.mp H
  obtain ⟨t296, A30, H⟩ := H
  replace H : (if t296 = true then (if 0 ≤ (wrap64 ((a0.size : Int) - (a1.size : Int))) then (if (wrap64 ((a0.size : Int) - (a1.size : Int))) ≤ (a0.size : Int) then (some (a0.extract 0 ((wrap64 ((a0.size : Int) - (a1.size : Int))) : Int).toNat)) else (none)) else (none)) else (some a0)) = some r := H
  have A3 := Aside0.mk A30
  clear A30
  by_cases c4 : t296 = true
  · subst c4
    have H1 : (if 0 ≤ (wrap64 ((a0.size : Int) - (a1.size : Int))) then (if (wrap64 ((a0.size : Int) - (a1.size : Int))) ≤ (a0.size : Int) then (some (a0.extract 0 ((wrap64 ((a0.size : Int) - (a1.size : Int))) : Int).toNat)) else (none)) else (none)) = some r := by rw [if_pos rfl] at H; exact H
    clear H
    have H := H1
    clear H1
    obtain ⟨ji5, hji5⟩ : ∃ j_ : Int, (wrap64 ((a0.size : Int) - (a1.size : Int))) = j_ := ⟨_, rfl⟩
    replace H : (if 0 ≤ (ji5) then (if (ji5) ≤ (a0.size : Int) then (some (a0.extract 0 ((ji5) : Int).toNat)) else (none)) else (none)) = some r := by first | (rw [hji5] at H; exact H) | (simp only [hji5] at H ⊢; exact H)
    (try rw [hji5] at A3)
    have hji5w : (IntKind.i64.wrap ((a0.size : Int) - (a1.size : Int))) = ji5 := (i64_w _).trans hji5
    by_cases c6 : 0 ≤ (ji5)
    · rw [if_pos c6] at H
      have c6b0 := eq_true c6
      have c6b1 : decide (0 ≤ (ji5)) = true := decide_eq_true c6
      clear c6
      by_cases c7 : (ji5) ≤ (a0.size : Int)
      · rw [if_pos c7] at H
        have c7b0 := eq_true c7
        have c7b1 : decide ((ji5) ≤ (a0.size : Int)) = true := decide_eq_true c7
        clear c7
        obtain rfl := Option.some.inj H
        go_enter Tryz.func202, Tryz.ntmps202
        go_wp2_with (first | ((with_reducible refine gate_callee (f := 206) rfl ?_); refine goesL_ (some 7) rfl rfl Tryz.func206 (by kernel_rfl) rfl #[.string a0, .string a1] rfl (by (try simp only [List.map_toArray, List.map_cons, List.map_nil]); first | done | rfl | (simp only [List.length_drop, List.length_take]; rfl)) ?_; (with_reducible refine (stringslite_HasSuffix.calls a0 a1 true _ A3.out).mono ?_); rintro e w' ⟨rfl, ⟨nd, rfl⟩⟩; refine ⟨_, rfl, ?_⟩))
        go_ret
        exact ⟨by first | rfl | (simp; done) | (simp only [← hji5] <;> (first | rfl | simp)) | (simp [*]; done), by repeat (first | exact Drawn0.refl _ | apply Drawn0.step)⟩
      · rw [if_neg c7] at H
        exact absurd H (by simp)
    · rw [if_neg c6] at H
      exact absurd H (by simp)
  · replace c4 := Bool.eq_false_iff.mpr c4
    subst c4
    have H1 : (some a0) = some r := by rw [if_neg (show ¬ (false = true) by decide)] at H; exact H
    clear H
    have H := H1
    clear H1
    obtain rfl := Option.some.inj H
    go_enter Tryz.func202, Tryz.ntmps202
    go_wp2_with (first | ((with_reducible refine gate_callee (f := 206) rfl ?_); refine goesL_ (some 7) rfl rfl Tryz.func206 (by kernel_rfl) rfl #[.string a0, .string a1] rfl (by (try simp only [List.map_toArray, List.map_cons, List.map_nil]); first | done | rfl | (simp only [List.length_drop, List.length_take]; rfl)) ?_; (with_reducible refine (stringslite_HasSuffix.calls a0 a1 false _ A3.out).mono ?_); rintro e w' ⟨rfl, ⟨nd, rfl⟩⟩; refine ⟨_, rfl, ?_⟩))
    go_ret
    exact ⟨by first | rfl | (simp; done) | (simp [*]; done), by repeat (first | exact Drawn0.refl _ | apply Drawn0.step)⟩

end Go.Proofs.YtabfglmpnkgecaaGreatDoor.Q

-- Written by a program of this claim's session (after the kit's print, with a kind for float64). Lean checks it.
namespace Go.Proofs.YtabfglmpnkgecaaGreatDoor.Q
open Go.RowKit Go.Proofs.YtabfglmpnkgecaaGreatDoorW.PrintWords Go.Proofs.YtabfglmpnkgecaaGreatDoorW.PrintLast Go.Proofs.YtabfglmpnkgecaaGreatDoorW.PrintMore
attribute [local go_sem] max2_int min2_int max_two min_two max_three min_three max_four min_four   -- for this text's walks alone
set_option linter.unusedVariables false
set_option linter.unusedSimpArgs false

/-! ### strings_TrimSuffix: function 51 -/
def strings_TrimSuffix.f (a0 : ByteArray) (a1 : ByteArray) : Option (ByteArray) := (stringslite_TrimSuffix.f a0 a1).bind fun t297 => (some t297)
set_option maxHeartbeats 8000000 in
set_option maxRecDepth 100000 in
theorem strings_TrimSuffix.calls (a0 : ByteArray) (a1 : ByteArray) (r : ByteArray) (w : World) (h : strings_TrimSuffix.f a0 a1 = some r) :
    Calls Tryz.prog 51 #[.string a0, .string a1] w fun e w' => e = .returned (.string r) ∧ Drawn0 w w' := by
  have H : ((stringslite_TrimSuffix.f a0 a1).bind fun t297 => (some t297)) = some r := h
  clear h
  replace H := Option.bind_eq_some_iff.mp H
  obtain ⟨t297, A30, H⟩ := H
  replace H : (some t297) = some r := H
  have A3 := Aside0.mk A30
  clear A30
  obtain rfl := Option.some.inj H
  go_enter Tryz.func51, Tryz.ntmps51
  go_wp2_with (first | ((with_reducible refine gate_callee (f := 202) rfl ?_); refine goesL_ (some 7) rfl rfl Tryz.func202 (by kernel_rfl) rfl #[.string a0, .string a1] rfl (by (try simp only [List.map_toArray, List.map_cons, List.map_nil]); first | done | rfl | (simp only [List.length_drop, List.length_take]; rfl)) ?_; (with_reducible refine (stringslite_TrimSuffix.calls a0 a1 t297 _ A3.out).mono ?_); rintro e w' ⟨rfl, ⟨nd, rfl⟩⟩; refine ⟨_, rfl, ?_⟩))
  go_ret
  exact ⟨by first | rfl | (simp; done) | (simp [*]; done), by repeat (first | exact Drawn0.refl _ | apply Drawn0.step)⟩

end Go.Proofs.YtabfglmpnkgecaaGreatDoor.Q

/- The two lines of a row: plain laws. -/
namespace Go.Proofs.YtabfglmpnkgecaaGreatDoor.X
open Go.RowKit Go.Proofs.YtabfglmpnkgecaaGreatDoorW.PrintWords Go.Proofs.YtabfglmpnkgecaaGreatDoorW.PrintLast Go.Proofs.YtabfglmpnkgecaaGreatDoorW.PrintMore Go.Proofs.YtabfglmpnkgecaaGreatDoor.Q

/-- A byte that ends neither a line nor a word. -/
def plainB (c : UInt8) : Bool := c != 10 && c != 13 && c != 32
theorem plain_ne {c : UInt8} (h : plainB c = true) : c ≠ 10 ∧ c ≠ 13 ∧ c ≠ 32 := by
  unfold plainB at h
  simp only [Bool.and_eq_true, bne_iff_ne] at h
  exact ⟨h.1.1, h.1.2, h.2⟩
theorem names_plain : ∀ g : ByteArray, ∀ x ∈ netNames g, ∀ c ∈ x.data.toList, plainB c = true := by
  have h1 : tcpNames.all (fun x => x.data.toList.all plainB) = true := by decide +kernel
  have h2 : ipNames.all (fun x => x.data.toList.all plainB) = true := by decide +kernel
  intro g x hx c hc
  unfold netNames at hx
  split at hx
  · exact List.all_eq_true.1 (List.all_eq_true.1 h1 x hx) c hc
  · exact List.all_eq_true.1 (List.all_eq_true.1 h2 x hx) c hc
theorem keys_plain (r : S31) (h : FineRow r) : ∀ s ∈ r.f2, ∀ c ∈ s.data.toList, plainB c = true := by
  intro s hs c hc
  obtain ⟨i, hi, rfl⟩ := mem_getD ⟨#[]⟩ hs
  obtain ⟨y, hy, he⟩ := (h.2.2.2 i hi).1
  rw [ByteArray.toList_eq, ByteArray.toList_eq] at he
  exact names_plain _ y hy c (he ▸ hc)
theorem sgL_plain (v : Int) : ∀ c ∈ sgL v, plainB c = true := by
  have hd : ∀ c : UInt8, 48 ≤ c.toNat ∧ c.toNat ≤ 57 → plainB c = true := by
    intro c hc
    unfold plainB
    simp only [Bool.and_eq_true, bne_iff_ne]
    refine ⟨⟨?_, ?_⟩, ?_⟩ <;> (rintro rfl; revert hc; decide)
  intro c hc
  unfold sgL at hc
  split at hc
  · rcases List.mem_cons.1 hc with rfl | hc
    · decide
    · exact hd c (decL_digit _ c hc)
  · exact hd c (decL_digit _ c hc)
/-- The first word of a line. -/
def headT (g : ByteArray) : ByteArray := ⟨(g.data.toList ++ [58]).toArray⟩
theorem grp_plain (r : S31) (h : FineRow r) : ∀ c ∈ r.f0.data.toList, plainB c = true := by
  have h1 : tcpL.all plainB = true := by decide
  have h2 : ipL.all plainB = true := by decide
  intro c hc
  rcases h.1 with h0 | h0 <;> (rw [ByteArray.toList_eq] at h0; rw [h0] at hc)
  · exact List.all_eq_true.1 h1 c hc
  · exact List.all_eq_true.1 h2 c hc
theorem head_plain (r : S31) (h : FineRow r) : ∀ c ∈ (headT r.f0).data.toList, plainB c = true := by
  intro c hc
  have hc' : c ∈ r.f0.data.toList ++ [58] := hc
  rcases List.mem_append.1 hc' with hc | hc
  · exact grp_plain r h c hc
  · rw [List.mem_singleton] at hc; subst hc; decide
theorem lineA_join (r : S31) : lineA r = joinL (headT r.f0) r.f2 := by
  simp [lineA, joinL, headT, keysL]
theorem lineV_join (r : S31) : lineV r = joinL (headT r.f0) (r.f1.map valT) := by
  simp [lineV, joinL, headT, valsL, valT, List.flatMap_map]
theorem join_line (p : ByteArray) (ps : List ByteArray) (h : ∀ s ∈ p :: ps, ∀ c ∈ s.data.toList, plainB c = true) : ∀ c ∈ joinL p ps, c ≠ 10 ∧ c ≠ 13 := by
  intro c hc
  unfold joinL at hc
  rcases List.mem_append.1 hc with hc | hc
  · have := plain_ne (h p List.mem_cons_self c hc)
    exact ⟨this.1, this.2.1⟩
  · obtain ⟨s, hs, hc⟩ := List.mem_flatMap.1 hc
    rcases List.mem_cons.1 hc with rfl | hc
    · decide
    · have := plain_ne (h s (List.mem_cons_of_mem _ hs) c hc)
      exact ⟨this.1, this.2.1⟩
theorem wordsA (r : S31) (h : FineRow r) : ∀ s ∈ headT r.f0 :: r.f2, ∀ c ∈ s.data.toList, plainB c = true := by
  intro s hs
  rcases List.mem_cons.1 hs with rfl | hs
  · exact head_plain r h
  · exact keys_plain r h s hs
theorem wordsV (r : S31) (h : FineRow r) : ∀ s ∈ headT r.f0 :: r.f1.map valT, ∀ c ∈ s.data.toList, plainB c = true := by
  intro s hs
  rcases List.mem_cons.1 hs with rfl | hs
  · exact head_plain r h
  · obtain ⟨n, _, rfl⟩ := List.mem_map.1 hs
    exact sgL_plain (sg n)
theorem lineA_len (r : S31) (h : FineRow r) : (lineA r).length ≤ 5000 := by
  obtain ⟨h0, h1, h2, h3, h4⟩ := fine_small r h
  have := keys_len r.f2 h3
  simp only [lineA, List.length_append, List.length_cons]
  omega
theorem lineV_len (r : S31) (h : FineRow r) : (lineV r).length ≤ 5000 := by
  obtain ⟨h0, h1, h2, h3, h4⟩ := fine_small r h
  have := vals_len r.f1 h4
  simp only [lineV, List.length_append, List.length_cons]
  omega
theorem trim_head (g : ByteArray) (hg : g.data.toList.length ≤ 1000) : strings_TrimSuffix.f (headT g) ⟨#[58]⟩ = some g := by
  have hz : (headT g).size = g.data.toList.length + 1 := by rw [ba_size]; simp [headT]
  have h1 : ((⟨#[58]⟩ : ByteArray).size : Int) = 1 := rfl
  have hw : wrap64 (((headT g).size : Int) - 1) = (g.data.toList.length : Int) := by rw [hz]; unfold wrap64; omega
  have hl : (headT g).data.toList = g.data.toList ++ [58] := rfl
  have e1 : ((headT g).extract g.data.toList.length (headT g).size).toList = [58] := by
    rw [hz, ext1 _ _ (by omega), hl]
    simp
  have e2 : (headT g).extract 0 g.data.toList.length = g := by
    rw [extract_left (headT g) g.data.toList [58] hl]
  have hs : stringslite_HasSuffix.f (headT g) ⟨#[58]⟩ = some true := by
    unfold stringslite_HasSuffix.f
    rw [h1, if_pos (by omega), hw, if_pos (by omega), if_pos (by omega), Int.toNat_natCast, e1, ByteArray.toList_eq]
    rfl
  unfold strings_TrimSuffix.f stringslite_TrimSuffix.f
  rw [hs]
  simp only [Option.bind_some]
  rw [if_pos trivial, h1, hw, if_pos (by omega), if_pos (by omega), Int.toNat_natCast, e2]
  rfl
theorem trim_calls (r : S31) (h : FineRow r) (w : World) : Calls Tryz.prog 51 #[.string (headT r.f0), .string ⟨#[58]⟩] w fun e w' => e = .returned (.string r.f0) ∧ Drawn0 w w' :=
  strings_TrimSuffix.calls _ _ _ w (trim_head r.f0 (by have := (fine_small r h).1; omega))
theorem rows_two {l : List S31} (h : FineRows l) : l.length ≤ 2 := by
  have hp := pigeon (l.map (fun r => r.f0.toList)) [tcpL, ipL] (fun x hx => by
    obtain ⟨r, hr, rfl⟩ := List.mem_map.1 hx
    rcases (fine_mem h r hr).1 with h0 | h0 <;> simp [h0]) (fun i hi j hj => by
    rw [List.length_map] at hi
    have h2 := h.2 i hi j hj
    rw [List.getElem?_map, List.getElem?_map, List.getElem?_eq_getElem hi, List.getElem?_eq_getElem (by omega : j < l.length)]
    intro he
    apply h2
    have d1 : l.getD i z31 = l[i] := by rw [List.getD_eq_getElem?_getD, List.getElem?_eq_getElem hi]; rfl
    have d2 : l.getD j z31 = l[j] := by rw [List.getD_eq_getElem?_getD, List.getElem?_eq_getElem (by omega : j < l.length)]; rfl
    rw [d1, d2]
    exact (Option.some.inj he).symm)
  simpa using hp
end Go.Proofs.YtabfglmpnkgecaaGreatDoor.X
