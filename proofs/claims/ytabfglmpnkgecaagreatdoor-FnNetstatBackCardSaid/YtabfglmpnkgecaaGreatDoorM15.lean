/- The records of Netstat's door: a record of addresses of numbers, by law. (Written by a program of this claim.) -/
import Derived.Test.YtabfglmpnkgecaaGreatDoorM14
set_option linter.unusedVariables false
set_option linter.unusedSimpArgs false
namespace Go.Proofs.YtabfglmpnkgecaaGreatDoor.X
open Go.RowKit Go.Proofs.YtabfglmpnkgecaaGreatDoorW.PrintWords Go.Proofs.YtabfglmpnkgecaaGreatDoorW.PrintLast Go.Proofs.YtabfglmpnkgecaaGreatDoorW.PrintMore Go.Proofs.YtabfglmpnkgecaaGreatDoor.Q

structure Fld where
  p : String
  nm : ByteArray
  k : Nat
/-- The nodes of a record's fields from j on. -/
def kidsFrom (M : Nat → Option Nat) : List Fld → Nat → List S43
  | [], _ => []
  | x :: l, j => kidM x.nm (M j) :: kidsFrom M l (j + 1)
def recsCode (T : TypeId) (pl : String) : List Fld → Nat → Nat → Nat → Code
  | [], r, s, _ => endCode pl r s
  | x :: l, r, s, j => .seq (.region r (callOps x.p T j s 55 52 #[.const (.string x.nm), .tmp (s + 3), .func x.k] #[9, 52, 108]).toArray true) (recsCode T pl l (r + 1) (s + 8) (j + 1))
theorem o_load52 (a : Act) (b : Nat) (W : World) (pos : String) (s t j : Nat) (v : Value) (af : List Edge) (h5 : a.eval (.tmp t) = .pointer (some ⟨b, j, none⟩)) (hc : W.cell? ⟨b, j, none⟩ = some v) :
  (execOp a.eval (mkO pos (some s) (.load 52 (.tmp t)) 52 af)).run Tryz.prog W = .ok (.value v) W := by
  have hu := Tryz.underlying52
  simp only [execOp, mkO, h5]
  go_simp
/-- The orders of all fields' regions. -/
def tabsOk (T : TypeId) : List Fld → Nat → Nat → Bool
  | [], _, _ => true
  | x :: l, s, j => decide (rtab .any (callOps x.p T j s 55 52 #[.const (.string x.nm), .tmp (s + 3), .func x.k] #[9, 52, 108]).toArray = callT) && tabsOk T l (s + 8) (j + 1)
set_option maxRecDepth 100000 in
set_option maxHeartbeats 1000000 in
theorem recs_wp (T : TypeId) (N B : Nat) (pl : String) (fn : Func) (hres : fn.results = #[.cell 4 43]) (w : World) (name : ByteArray) (args : Array Value) (M : Nat → Option Nat) (hT : ∀ j, j < N → FieldAt T j j) (hM : ∀ j, j < N → ∃ v, args[j]? = some v ∧ PtrAt w B v (M j)) :
    ∀ (l : List Fld) (r s j : Nat) (a : Act) (W : World) (v : Value) (xs : List S43), j + l.length ≤ N → tabsOk T l s j = true → (∀ x ∈ l, ClosOk x.k) → BSt w T name args W v xs → xs.length + l.length ≤ 1000 → s + 8 * l.length + 1 ≤ a.tmps.size → 5 < s →
      a.eval (.tmp 3) = .pointer (some ⟨w.heap.size, 0, none⟩) → a.eval (.tmp 4) = .pointer (some ⟨w.heap.size + 1, 0, none⟩) → a.eval (.tmp 5) = .pointer (some ⟨w.heap.size + 2, 0, none⟩) → a.defers = [] →
      (recsCode T pl l r s j).wp Tryz.prog (bodyPost Tryz.prog fn (ElPost w (recM name (xs ++ kidsFrom M l j)))) a W
  | [], r, s, j, a, W, v, xs, _, _, _, hB, _, hsz, hs, h3, h4, h5, hd => by
    unfold recsCode kidsFrom
    rw [List.append_nil]
    exact end_wp T pl fn hres w name args r s a W v xs hB (by simp only [List.length_nil] at hsz; omega) hs h4 h5 hd
  | x :: l, r, s, j, a, W, v, xs, hj, htb, hk, hB, hlen, hsz, hs, h3, h4, h5, hd => by
    simp only [List.length_cons] at hj hlen hsz
    obtain ⟨fs, f, n, g1, g2, g3, g4⟩ := hT j (by omega)
    obtain ⟨lv, m1, m2⟩ := hM j (by omega)
    unfold tabsOk at htb
    rw [Bool.and_eq_true, decide_eq_true_eq] at htb
    unfold recsCode
    refine callField (x := kidM x.nm (M j)) (lv := lv) (vals := #[.string x.nm, lv, .func (.func x.k) #[] #[]]) hB (by omega) (by omega) hs htb.1 fs g1 f g2 g3 g4 ?_ ?_ Tryz.func55 (by kernel_rfl) (by kernel_rfl) ?_ h3 h5 ?_
    · intro a' W' q1 q2
      exact o_load52 _ w.heap.size _ _ _ _ j lv _ q1 ((blk_cell q2 j).trans m1)
    · intro a' q
      simp only [List.map_toArray, List.map_cons, List.map_nil]
      rw [q]
      rfl
    · intro w1 hb
      have hp : PtrAt w1 B lv (M j) := m2.step (fun k _ hk => hb.block k hk)
      exact pointer_calls x.k (hk x List.mem_cons_self) x.nm lv (M j) B w1 hp
    · intro a' W' v' q1 q2 q3 q4
      have ih := recs_wp T N B pl fn hres w name args M hT hM l (r + 1) (s + 8) (j + 1) a' W' v' (xs ++ [kidM x.nm (M j)]) (by omega) htb.2 (fun y hy => hk y (List.mem_cons_of_mem _ hy)) q4 (by simp; omega) (by omega) (by omega) ((q1 3 (by omega)).trans h3) ((q1 4 (by omega)).trans h4) ((q1 5 (by omega)).trans h5) (q3.trans hd)
      rw [List.append_assoc] at ih
      exact ih
def tcpFlds : List Fld :=
  [⟨ "nodes.go:1085", ⟨#[83, 121, 110, 99, 111, 111, 107, 105, 101, 115, 83, 101, 110, 116]⟩, 56⟩,
   ⟨ "nodes.go:1086", ⟨#[83, 121, 110, 99, 111, 111, 107, 105, 101, 115, 82, 101, 99, 118]⟩, 57⟩,
   ⟨ "nodes.go:1087", ⟨#[83, 121, 110, 99, 111, 111, 107, 105, 101, 115, 70, 97, 105, 108, 101, 100]⟩, 58⟩,
   ⟨ "nodes.go:1088", ⟨#[69, 109, 98, 114, 121, 111, 110, 105, 99, 82, 115, 116, 115]⟩, 59⟩,
   ⟨ "nodes.go:1089", ⟨#[80, 114, 117, 110, 101, 67, 97, 108, 108, 101, 100]⟩, 60⟩,
   ⟨ "nodes.go:1090", ⟨#[82, 99, 118, 80, 114, 117, 110, 101, 100]⟩, 61⟩,
   ⟨ "nodes.go:1091", ⟨#[79, 102, 111, 80, 114, 117, 110, 101, 100]⟩, 62⟩,
   ⟨ "nodes.go:1092", ⟨#[79, 117, 116, 79, 102, 87, 105, 110, 100, 111, 119, 73, 99, 109, 112, 115]⟩, 63⟩,
   ⟨ "nodes.go:1093", ⟨#[76, 111, 99, 107, 68, 114, 111, 112, 112, 101, 100, 73, 99, 109, 112, 115]⟩, 64⟩,
   ⟨ "nodes.go:1094", ⟨#[65, 114, 112, 70, 105, 108, 116, 101, 114]⟩, 65⟩,
   ⟨ "nodes.go:1095", ⟨#[84, 87]⟩, 66⟩,
   ⟨ "nodes.go:1096", ⟨#[84, 87, 82, 101, 99, 121, 99, 108, 101, 100]⟩, 67⟩,
   ⟨ "nodes.go:1097", ⟨#[84, 87, 75, 105, 108, 108, 101, 100]⟩, 68⟩,
   ⟨ "nodes.go:1098", ⟨#[80, 65, 87, 83, 65, 99, 116, 105, 118, 101]⟩, 69⟩,
   ⟨ "nodes.go:1099", ⟨#[80, 65, 87, 83, 69, 115, 116, 97, 98]⟩, 70⟩,
   ⟨ "nodes.go:1100", ⟨#[68, 101, 108, 97, 121, 101, 100, 65, 67, 75, 115]⟩, 71⟩,
   ⟨ "nodes.go:1101", ⟨#[68, 101, 108, 97, 121, 101, 100, 65, 67, 75, 76, 111, 99, 107, 101, 100]⟩, 72⟩,
   ⟨ "nodes.go:1102", ⟨#[68, 101, 108, 97, 121, 101, 100, 65, 67, 75, 76, 111, 115, 116]⟩, 73⟩,
   ⟨ "nodes.go:1103", ⟨#[76, 105, 115, 116, 101, 110, 79, 118, 101, 114, 102, 108, 111, 119, 115]⟩, 74⟩,
   ⟨ "nodes.go:1104", ⟨#[76, 105, 115, 116, 101, 110, 68, 114, 111, 112, 115]⟩, 75⟩,
   ⟨ "nodes.go:1105", ⟨#[84, 67, 80, 72, 80, 72, 105, 116, 115]⟩, 76⟩,
   ⟨ "nodes.go:1106", ⟨#[84, 67, 80, 80, 117, 114, 101, 65, 99, 107, 115]⟩, 77⟩,
   ⟨ "nodes.go:1107", ⟨#[84, 67, 80, 72, 80, 65, 99, 107, 115]⟩, 78⟩,
   ⟨ "nodes.go:1108", ⟨#[84, 67, 80, 82, 101, 110, 111, 82, 101, 99, 111, 118, 101, 114, 121]⟩, 79⟩,
   ⟨ "nodes.go:1109", ⟨#[84, 67, 80, 83, 97, 99, 107, 82, 101, 99, 111, 118, 101, 114, 121]⟩, 80⟩,
   ⟨ "nodes.go:1110", ⟨#[84, 67, 80, 83, 65, 67, 75, 82, 101, 110, 101, 103, 105, 110, 103]⟩, 81⟩,
   ⟨ "nodes.go:1111", ⟨#[84, 67, 80, 83, 65, 67, 75, 82, 101, 111, 114, 100, 101, 114]⟩, 82⟩,
   ⟨ "nodes.go:1112", ⟨#[84, 67, 80, 82, 101, 110, 111, 82, 101, 111, 114, 100, 101, 114]⟩, 83⟩,
   ⟨ "nodes.go:1113", ⟨#[84, 67, 80, 84, 83, 82, 101, 111, 114, 100, 101, 114]⟩, 84⟩,
   ⟨ "nodes.go:1114", ⟨#[84, 67, 80, 70, 117, 108, 108, 85, 110, 100, 111]⟩, 85⟩,
   ⟨ "nodes.go:1115", ⟨#[84, 67, 80, 80, 97, 114, 116, 105, 97, 108, 85, 110, 100, 111]⟩, 86⟩,
   ⟨ "nodes.go:1116", ⟨#[84, 67, 80, 68, 83, 65, 67, 75, 85, 110, 100, 111]⟩, 87⟩,
   ⟨ "nodes.go:1117", ⟨#[84, 67, 80, 76, 111, 115, 115, 85, 110, 100, 111]⟩, 88⟩,
   ⟨ "nodes.go:1118", ⟨#[84, 67, 80, 76, 111, 115, 116, 82, 101, 116, 114, 97, 110, 115, 109, 105, 116]⟩, 89⟩,
   ⟨ "nodes.go:1119", ⟨#[84, 67, 80, 82, 101, 110, 111, 70, 97, 105, 108, 117, 114, 101, 115]⟩, 90⟩,
   ⟨ "nodes.go:1120", ⟨#[84, 67, 80, 83, 97, 99, 107, 70, 97, 105, 108, 117, 114, 101, 115]⟩, 91⟩,
   ⟨ "nodes.go:1121", ⟨#[84, 67, 80, 76, 111, 115, 115, 70, 97, 105, 108, 117, 114, 101, 115]⟩, 92⟩,
   ⟨ "nodes.go:1122", ⟨#[84, 67, 80, 70, 97, 115, 116, 82, 101, 116, 114, 97, 110, 115]⟩, 93⟩,
   ⟨ "nodes.go:1123", ⟨#[84, 67, 80, 83, 108, 111, 119, 83, 116, 97, 114, 116, 82, 101, 116, 114, 97, 110, 115]⟩, 94⟩,
   ⟨ "nodes.go:1124", ⟨#[84, 67, 80, 84, 105, 109, 101, 111, 117, 116, 115]⟩, 95⟩,
   ⟨ "nodes.go:1125", ⟨#[84, 67, 80, 76, 111, 115, 115, 80, 114, 111, 98, 101, 115]⟩, 96⟩,
   ⟨ "nodes.go:1126", ⟨#[84, 67, 80, 76, 111, 115, 115, 80, 114, 111, 98, 101, 82, 101, 99, 111, 118, 101, 114, 121]⟩, 97⟩,
   ⟨ "nodes.go:1127", ⟨#[84, 67, 80, 82, 101, 110, 111, 82, 101, 99, 111, 118, 101, 114, 121, 70, 97, 105, 108]⟩, 98⟩,
   ⟨ "nodes.go:1128", ⟨#[84, 67, 80, 83, 97, 99, 107, 82, 101, 99, 111, 118, 101, 114, 121, 70, 97, 105, 108]⟩, 99⟩,
   ⟨ "nodes.go:1129", ⟨#[84, 67, 80, 82, 99, 118, 67, 111, 108, 108, 97, 112, 115, 101, 100]⟩, 100⟩,
   ⟨ "nodes.go:1130", ⟨#[84, 67, 80, 68, 83, 65, 67, 75, 79, 108, 100, 83, 101, 110, 116]⟩, 101⟩,
   ⟨ "nodes.go:1131", ⟨#[84, 67, 80, 68, 83, 65, 67, 75, 79, 102, 111, 83, 101, 110, 116]⟩, 102⟩,
   ⟨ "nodes.go:1132", ⟨#[84, 67, 80, 68, 83, 65, 67, 75, 82, 101, 99, 118]⟩, 103⟩,
   ⟨ "nodes.go:1133", ⟨#[84, 67, 80, 68, 83, 65, 67, 75, 79, 102, 111, 82, 101, 99, 118]⟩, 104⟩,
   ⟨ "nodes.go:1134", ⟨#[84, 67, 80, 65, 98, 111, 114, 116, 79, 110, 68, 97, 116, 97]⟩, 105⟩,
   ⟨ "nodes.go:1135", ⟨#[84, 67, 80, 65, 98, 111, 114, 116, 79, 110, 67, 108, 111, 115, 101]⟩, 106⟩,
   ⟨ "nodes.go:1136", ⟨#[84, 67, 80, 65, 98, 111, 114, 116, 79, 110, 77, 101, 109, 111, 114, 121]⟩, 107⟩,
   ⟨ "nodes.go:1137", ⟨#[84, 67, 80, 65, 98, 111, 114, 116, 79, 110, 84, 105, 109, 101, 111, 117, 116]⟩, 108⟩,
   ⟨ "nodes.go:1138", ⟨#[84, 67, 80, 65, 98, 111, 114, 116, 79, 110, 76, 105, 110, 103, 101, 114]⟩, 109⟩,
   ⟨ "nodes.go:1139", ⟨#[84, 67, 80, 65, 98, 111, 114, 116, 70, 97, 105, 108, 101, 100]⟩, 110⟩,
   ⟨ "nodes.go:1140", ⟨#[84, 67, 80, 77, 101, 109, 111, 114, 121, 80, 114, 101, 115, 115, 117, 114, 101, 115]⟩, 111⟩,
   ⟨ "nodes.go:1141", ⟨#[84, 67, 80, 77, 101, 109, 111, 114, 121, 80, 114, 101, 115, 115, 117, 114, 101, 115, 67, 104, 114, 111, 110, 111]⟩, 112⟩,
   ⟨ "nodes.go:1142", ⟨#[84, 67, 80, 83, 65, 67, 75, 68, 105, 115, 99, 97, 114, 100]⟩, 113⟩,
   ⟨ "nodes.go:1143", ⟨#[84, 67, 80, 68, 83, 65, 67, 75, 73, 103, 110, 111, 114, 101, 100, 79, 108, 100]⟩, 114⟩,
   ⟨ "nodes.go:1144", ⟨#[84, 67, 80, 68, 83, 65, 67, 75, 73, 103, 110, 111, 114, 101, 100, 78, 111, 85, 110, 100, 111]⟩, 115⟩,
   ⟨ "nodes.go:1145", ⟨#[84, 67, 80, 83, 112, 117, 114, 105, 111, 117, 115, 82, 84, 79, 115]⟩, 116⟩,
   ⟨ "nodes.go:1146", ⟨#[84, 67, 80, 77, 68, 53, 78, 111, 116, 70, 111, 117, 110, 100]⟩, 117⟩,
   ⟨ "nodes.go:1147", ⟨#[84, 67, 80, 77, 68, 53, 85, 110, 101, 120, 112, 101, 99, 116, 101, 100]⟩, 118⟩,
   ⟨ "nodes.go:1148", ⟨#[84, 67, 80, 77, 68, 53, 70, 97, 105, 108, 117, 114, 101]⟩, 119⟩,
   ⟨ "nodes.go:1149", ⟨#[84, 67, 80, 83, 97, 99, 107, 83, 104, 105, 102, 116, 101, 100]⟩, 120⟩,
   ⟨ "nodes.go:1150", ⟨#[84, 67, 80, 83, 97, 99, 107, 77, 101, 114, 103, 101, 100]⟩, 121⟩,
   ⟨ "nodes.go:1151", ⟨#[84, 67, 80, 83, 97, 99, 107, 83, 104, 105, 102, 116, 70, 97, 108, 108, 98, 97, 99, 107]⟩, 122⟩,
   ⟨ "nodes.go:1152", ⟨#[84, 67, 80, 66, 97, 99, 107, 108, 111, 103, 68, 114, 111, 112]⟩, 123⟩,
   ⟨ "nodes.go:1153", ⟨#[80, 70, 77, 101, 109, 97, 108, 108, 111, 99, 68, 114, 111, 112]⟩, 124⟩,
   ⟨ "nodes.go:1154", ⟨#[84, 67, 80, 77, 105, 110, 84, 84, 76, 68, 114, 111, 112]⟩, 125⟩,
   ⟨ "nodes.go:1155", ⟨#[84, 67, 80, 68, 101, 102, 101, 114, 65, 99, 99, 101, 112, 116, 68, 114, 111, 112]⟩, 126⟩,
   ⟨ "nodes.go:1156", ⟨#[73, 80, 82, 101, 118, 101, 114, 115, 101, 80, 97, 116, 104, 70, 105, 108, 116, 101, 114]⟩, 127⟩,
   ⟨ "nodes.go:1157", ⟨#[84, 67, 80, 84, 105, 109, 101, 87, 97, 105, 116, 79, 118, 101, 114, 102, 108, 111, 119]⟩, 128⟩,
   ⟨ "nodes.go:1158", ⟨#[84, 67, 80, 82, 101, 113, 81, 70, 117, 108, 108, 68, 111, 67, 111, 111, 107, 105, 101, 115]⟩, 129⟩,
   ⟨ "nodes.go:1159", ⟨#[84, 67, 80, 82, 101, 113, 81, 70, 117, 108, 108, 68, 114, 111, 112]⟩, 130⟩,
   ⟨ "nodes.go:1160", ⟨#[84, 67, 80, 82, 101, 116, 114, 97, 110, 115, 70, 97, 105, 108]⟩, 131⟩,
   ⟨ "nodes.go:1161", ⟨#[84, 67, 80, 82, 99, 118, 67, 111, 97, 108, 101, 115, 99, 101]⟩, 132⟩,
   ⟨ "nodes.go:1162", ⟨#[84, 67, 80, 82, 99, 118, 81, 68, 114, 111, 112]⟩, 133⟩,
   ⟨ "nodes.go:1163", ⟨#[84, 67, 80, 79, 70, 79, 81, 117, 101, 117, 101]⟩, 134⟩,
   ⟨ "nodes.go:1164", ⟨#[84, 67, 80, 79, 70, 79, 68, 114, 111, 112]⟩, 135⟩,
   ⟨ "nodes.go:1165", ⟨#[84, 67, 80, 79, 70, 79, 77, 101, 114, 103, 101]⟩, 136⟩,
   ⟨ "nodes.go:1166", ⟨#[84, 67, 80, 67, 104, 97, 108, 108, 101, 110, 103, 101, 65, 67, 75]⟩, 137⟩,
   ⟨ "nodes.go:1167", ⟨#[84, 67, 80, 83, 89, 78, 67, 104, 97, 108, 108, 101, 110, 103, 101]⟩, 138⟩,
   ⟨ "nodes.go:1168", ⟨#[84, 67, 80, 70, 97, 115, 116, 79, 112, 101, 110, 65, 99, 116, 105, 118, 101]⟩, 139⟩,
   ⟨ "nodes.go:1169", ⟨#[84, 67, 80, 70, 97, 115, 116, 79, 112, 101, 110, 65, 99, 116, 105, 118, 101, 70, 97, 105, 108]⟩, 140⟩,
   ⟨ "nodes.go:1170", ⟨#[84, 67, 80, 70, 97, 115, 116, 79, 112, 101, 110, 80, 97, 115, 115, 105, 118, 101]⟩, 141⟩,
   ⟨ "nodes.go:1171", ⟨#[84, 67, 80, 70, 97, 115, 116, 79, 112, 101, 110, 80, 97, 115, 115, 105, 118, 101, 70, 97, 105, 108]⟩, 142⟩,
   ⟨ "nodes.go:1172", ⟨#[84, 67, 80, 70, 97, 115, 116, 79, 112, 101, 110, 76, 105, 115, 116, 101, 110, 79, 118, 101, 114, 102, 108, 111, 119]⟩, 143⟩,
   ⟨ "nodes.go:1173", ⟨#[84, 67, 80, 70, 97, 115, 116, 79, 112, 101, 110, 67, 111, 111, 107, 105, 101, 82, 101, 113, 100]⟩, 144⟩,
   ⟨ "nodes.go:1174", ⟨#[84, 67, 80, 70, 97, 115, 116, 79, 112, 101, 110, 66, 108, 97, 99, 107, 104, 111, 108, 101]⟩, 145⟩,
   ⟨ "nodes.go:1175", ⟨#[84, 67, 80, 83, 112, 117, 114, 105, 111, 117, 115, 82, 116, 120, 72, 111, 115, 116, 81, 117, 101, 117, 101, 115]⟩, 146⟩,
   ⟨ "nodes.go:1176", ⟨#[66, 117, 115, 121, 80, 111, 108, 108, 82, 120, 80, 97, 99, 107, 101, 116, 115]⟩, 147⟩,
   ⟨ "nodes.go:1177", ⟨#[84, 67, 80, 65, 117, 116, 111, 67, 111, 114, 107, 105, 110, 103]⟩, 148⟩,
   ⟨ "nodes.go:1178", ⟨#[84, 67, 80, 70, 114, 111, 109, 90, 101, 114, 111, 87, 105, 110, 100, 111, 119, 65, 100, 118]⟩, 149⟩,
   ⟨ "nodes.go:1179", ⟨#[84, 67, 80, 84, 111, 90, 101, 114, 111, 87, 105, 110, 100, 111, 119, 65, 100, 118]⟩, 150⟩,
   ⟨ "nodes.go:1180", ⟨#[84, 67, 80, 87, 97, 110, 116, 90, 101, 114, 111, 87, 105, 110, 100, 111, 119, 65, 100, 118]⟩, 151⟩,
   ⟨ "nodes.go:1181", ⟨#[84, 67, 80, 83, 121, 110, 82, 101, 116, 114, 97, 110, 115]⟩, 152⟩,
   ⟨ "nodes.go:1182", ⟨#[84, 67, 80, 79, 114, 105, 103, 68, 97, 116, 97, 83, 101, 110, 116]⟩, 153⟩,
   ⟨ "nodes.go:1183", ⟨#[84, 67, 80, 72, 121, 115, 116, 97, 114, 116, 84, 114, 97, 105, 110, 68, 101, 116, 101, 99, 116]⟩, 154⟩,
   ⟨ "nodes.go:1184", ⟨#[84, 67, 80, 72, 121, 115, 116, 97, 114, 116, 84, 114, 97, 105, 110, 67, 119, 110, 100]⟩, 155⟩,
   ⟨ "nodes.go:1185", ⟨#[84, 67, 80, 72, 121, 115, 116, 97, 114, 116, 68, 101, 108, 97, 121, 68, 101, 116, 101, 99, 116]⟩, 156⟩,
   ⟨ "nodes.go:1186", ⟨#[84, 67, 80, 72, 121, 115, 116, 97, 114, 116, 68, 101, 108, 97, 121, 67, 119, 110, 100]⟩, 157⟩,
   ⟨ "nodes.go:1187", ⟨#[84, 67, 80, 65, 67, 75, 83, 107, 105, 112, 112, 101, 100, 83, 121, 110, 82, 101, 99, 118]⟩, 158⟩,
   ⟨ "nodes.go:1188", ⟨#[84, 67, 80, 65, 67, 75, 83, 107, 105, 112, 112, 101, 100, 80, 65, 87, 83]⟩, 159⟩,
   ⟨ "nodes.go:1189", ⟨#[84, 67, 80, 65, 67, 75, 83, 107, 105, 112, 112, 101, 100, 83, 101, 113]⟩, 160⟩,
   ⟨ "nodes.go:1190", ⟨#[84, 67, 80, 65, 67, 75, 83, 107, 105, 112, 112, 101, 100, 70, 105, 110, 87, 97, 105, 116, 50]⟩, 161⟩,
   ⟨ "nodes.go:1191", ⟨#[84, 67, 80, 65, 67, 75, 83, 107, 105, 112, 112, 101, 100, 84, 105, 109, 101, 87, 97, 105, 116]⟩, 162⟩,
   ⟨ "nodes.go:1192", ⟨#[84, 67, 80, 65, 67, 75, 83, 107, 105, 112, 112, 101, 100, 67, 104, 97, 108, 108, 101, 110, 103, 101]⟩, 163⟩,
   ⟨ "nodes.go:1193", ⟨#[84, 67, 80, 87, 105, 110, 80, 114, 111, 98, 101]⟩, 164⟩,
   ⟨ "nodes.go:1194", ⟨#[84, 67, 80, 75, 101, 101, 112, 65, 108, 105, 118, 101]⟩, 165⟩,
   ⟨ "nodes.go:1195", ⟨#[84, 67, 80, 77, 84, 85, 80, 70, 97, 105, 108]⟩, 166⟩,
   ⟨ "nodes.go:1196", ⟨#[84, 67, 80, 77, 84, 85, 80, 83, 117, 99, 99, 101, 115, 115]⟩, 167⟩,
   ⟨ "nodes.go:1197", ⟨#[84, 67, 80, 87, 113, 117, 101, 117, 101, 84, 111, 111, 66, 105, 103]⟩, 168⟩,
   ⟨ "nodes.go:1198", ⟨#[84, 67, 80, 76, 111, 115, 115]⟩, 169⟩,
   ⟨ "nodes.go:1199", ⟨#[80, 65, 87, 83, 80, 97, 115, 115, 105, 118, 101]⟩, 170⟩,
   ⟨ "nodes.go:1200", ⟨#[84, 67, 80, 70, 111, 114, 119, 97, 114, 100, 82, 101, 116, 114, 97, 110, 115]⟩, 171⟩,
   ⟨ "nodes.go:1201", ⟨#[84, 67, 80, 83, 99, 104, 101, 100, 117, 108, 101, 114, 70, 97, 105, 108, 101, 100]⟩, 172⟩,
   ⟨ "nodes.go:1202", ⟨#[84, 67, 80, 80, 114, 101, 113, 117, 101, 117, 101, 100]⟩, 173⟩,
   ⟨ "nodes.go:1203", ⟨#[84, 67, 80, 68, 105, 114, 101, 99, 116, 67, 111, 112, 121, 70, 114, 111, 109, 66, 97, 99, 107, 108, 111, 103]⟩, 174⟩,
   ⟨ "nodes.go:1204", ⟨#[84, 67, 80, 68, 105, 114, 101, 99, 116, 67, 111, 112, 121, 70, 114, 111, 109, 80, 114, 101, 113, 117, 101, 117, 101]⟩, 175⟩,
   ⟨ "nodes.go:1205", ⟨#[84, 67, 80, 80, 114, 101, 113, 117, 101, 117, 101, 68, 114, 111, 112, 112, 101, 100]⟩, 176⟩,
   ⟨ "nodes.go:1206", ⟨#[84, 67, 80, 70, 65, 67, 75, 82, 101, 111, 114, 100, 101, 114]⟩, 177⟩,
   ⟨ "nodes.go:1207", ⟨#[84, 67, 80, 72, 80, 72, 105, 116, 115, 84, 111, 85, 115, 101, 114]⟩, 178⟩]
def ipFlds : List Fld :=
  [⟨ "nodes.go:1214", ⟨#[73, 110, 78, 111, 82, 111, 117, 116, 101, 115]⟩, 179⟩,
   ⟨ "nodes.go:1215", ⟨#[73, 110, 84, 114, 117, 110, 99, 97, 116, 101, 100, 80, 107, 116, 115]⟩, 180⟩,
   ⟨ "nodes.go:1216", ⟨#[73, 110, 77, 99, 97, 115, 116, 80, 107, 116, 115]⟩, 181⟩,
   ⟨ "nodes.go:1217", ⟨#[79, 117, 116, 77, 99, 97, 115, 116, 80, 107, 116, 115]⟩, 182⟩,
   ⟨ "nodes.go:1218", ⟨#[73, 110, 66, 99, 97, 115, 116, 80, 107, 116, 115]⟩, 183⟩,
   ⟨ "nodes.go:1219", ⟨#[79, 117, 116, 66, 99, 97, 115, 116, 80, 107, 116, 115]⟩, 184⟩,
   ⟨ "nodes.go:1220", ⟨#[73, 110, 79, 99, 116, 101, 116, 115]⟩, 185⟩,
   ⟨ "nodes.go:1221", ⟨#[79, 117, 116, 79, 99, 116, 101, 116, 115]⟩, 186⟩,
   ⟨ "nodes.go:1222", ⟨#[73, 110, 77, 99, 97, 115, 116, 79, 99, 116, 101, 116, 115]⟩, 187⟩,
   ⟨ "nodes.go:1223", ⟨#[79, 117, 116, 77, 99, 97, 115, 116, 79, 99, 116, 101, 116, 115]⟩, 188⟩,
   ⟨ "nodes.go:1224", ⟨#[73, 110, 66, 99, 97, 115, 116, 79, 99, 116, 101, 116, 115]⟩, 189⟩,
   ⟨ "nodes.go:1225", ⟨#[79, 117, 116, 66, 99, 97, 115, 116, 79, 99, 116, 101, 116, 115]⟩, 190⟩,
   ⟨ "nodes.go:1226", ⟨#[73, 110, 67, 115, 117, 109, 69, 114, 114, 111, 114, 115]⟩, 191⟩,
   ⟨ "nodes.go:1227", ⟨#[73, 110, 78, 111, 69, 67, 84, 80, 107, 116, 115]⟩, 192⟩,
   ⟨ "nodes.go:1228", ⟨#[73, 110, 69, 67, 84, 49, 80, 107, 116, 115]⟩, 193⟩,
   ⟨ "nodes.go:1229", ⟨#[73, 110, 69, 67, 84, 48, 80, 107, 116, 115]⟩, 194⟩,
   ⟨ "nodes.go:1230", ⟨#[73, 110, 67, 69, 80, 107, 116, 115]⟩, 195⟩,
   ⟨ "nodes.go:1231", ⟨#[82, 101, 97, 115, 109, 79, 118, 101, 114, 108, 97, 112, 115]⟩, 196⟩]
theorem clos56 : ClosOk 56 := ⟨_, "nodes.go:1085", Tryz.func56, by kernel_rfl, rfl, rfl, by kernel_rfl⟩
theorem clos57 : ClosOk 57 := ⟨_, "nodes.go:1086", Tryz.func57, by kernel_rfl, rfl, rfl, by kernel_rfl⟩
theorem clos58 : ClosOk 58 := ⟨_, "nodes.go:1087", Tryz.func58, by kernel_rfl, rfl, rfl, by kernel_rfl⟩
theorem clos59 : ClosOk 59 := ⟨_, "nodes.go:1088", Tryz.func59, by kernel_rfl, rfl, rfl, by kernel_rfl⟩
theorem clos60 : ClosOk 60 := ⟨_, "nodes.go:1089", Tryz.func60, by kernel_rfl, rfl, rfl, by kernel_rfl⟩
theorem clos61 : ClosOk 61 := ⟨_, "nodes.go:1090", Tryz.func61, by kernel_rfl, rfl, rfl, by kernel_rfl⟩
theorem clos62 : ClosOk 62 := ⟨_, "nodes.go:1091", Tryz.func62, by kernel_rfl, rfl, rfl, by kernel_rfl⟩
theorem clos63 : ClosOk 63 := ⟨_, "nodes.go:1092", Tryz.func63, by kernel_rfl, rfl, rfl, by kernel_rfl⟩
theorem clos64 : ClosOk 64 := ⟨_, "nodes.go:1093", Tryz.func64, by kernel_rfl, rfl, rfl, by kernel_rfl⟩
theorem clos65 : ClosOk 65 := ⟨_, "nodes.go:1094", Tryz.func65, by kernel_rfl, rfl, rfl, by kernel_rfl⟩
theorem clos66 : ClosOk 66 := ⟨_, "nodes.go:1095", Tryz.func66, by kernel_rfl, rfl, rfl, by kernel_rfl⟩
theorem clos67 : ClosOk 67 := ⟨_, "nodes.go:1096", Tryz.func67, by kernel_rfl, rfl, rfl, by kernel_rfl⟩
theorem clos68 : ClosOk 68 := ⟨_, "nodes.go:1097", Tryz.func68, by kernel_rfl, rfl, rfl, by kernel_rfl⟩
theorem clos69 : ClosOk 69 := ⟨_, "nodes.go:1098", Tryz.func69, by kernel_rfl, rfl, rfl, by kernel_rfl⟩
theorem clos70 : ClosOk 70 := ⟨_, "nodes.go:1099", Tryz.func70, by kernel_rfl, rfl, rfl, by kernel_rfl⟩
theorem clos71 : ClosOk 71 := ⟨_, "nodes.go:1100", Tryz.func71, by kernel_rfl, rfl, rfl, by kernel_rfl⟩
theorem clos72 : ClosOk 72 := ⟨_, "nodes.go:1101", Tryz.func72, by kernel_rfl, rfl, rfl, by kernel_rfl⟩
theorem clos73 : ClosOk 73 := ⟨_, "nodes.go:1102", Tryz.func73, by kernel_rfl, rfl, rfl, by kernel_rfl⟩
theorem clos74 : ClosOk 74 := ⟨_, "nodes.go:1103", Tryz.func74, by kernel_rfl, rfl, rfl, by kernel_rfl⟩
theorem clos75 : ClosOk 75 := ⟨_, "nodes.go:1104", Tryz.func75, by kernel_rfl, rfl, rfl, by kernel_rfl⟩
theorem clos76 : ClosOk 76 := ⟨_, "nodes.go:1105", Tryz.func76, by kernel_rfl, rfl, rfl, by kernel_rfl⟩
theorem clos77 : ClosOk 77 := ⟨_, "nodes.go:1106", Tryz.func77, by kernel_rfl, rfl, rfl, by kernel_rfl⟩
theorem clos78 : ClosOk 78 := ⟨_, "nodes.go:1107", Tryz.func78, by kernel_rfl, rfl, rfl, by kernel_rfl⟩
theorem clos79 : ClosOk 79 := ⟨_, "nodes.go:1108", Tryz.func79, by kernel_rfl, rfl, rfl, by kernel_rfl⟩
theorem clos80 : ClosOk 80 := ⟨_, "nodes.go:1109", Tryz.func80, by kernel_rfl, rfl, rfl, by kernel_rfl⟩
theorem clos81 : ClosOk 81 := ⟨_, "nodes.go:1110", Tryz.func81, by kernel_rfl, rfl, rfl, by kernel_rfl⟩
theorem clos82 : ClosOk 82 := ⟨_, "nodes.go:1111", Tryz.func82, by kernel_rfl, rfl, rfl, by kernel_rfl⟩
theorem clos83 : ClosOk 83 := ⟨_, "nodes.go:1112", Tryz.func83, by kernel_rfl, rfl, rfl, by kernel_rfl⟩
theorem clos84 : ClosOk 84 := ⟨_, "nodes.go:1113", Tryz.func84, by kernel_rfl, rfl, rfl, by kernel_rfl⟩
theorem clos85 : ClosOk 85 := ⟨_, "nodes.go:1114", Tryz.func85, by kernel_rfl, rfl, rfl, by kernel_rfl⟩
theorem clos86 : ClosOk 86 := ⟨_, "nodes.go:1115", Tryz.func86, by kernel_rfl, rfl, rfl, by kernel_rfl⟩
theorem clos87 : ClosOk 87 := ⟨_, "nodes.go:1116", Tryz.func87, by kernel_rfl, rfl, rfl, by kernel_rfl⟩
theorem clos88 : ClosOk 88 := ⟨_, "nodes.go:1117", Tryz.func88, by kernel_rfl, rfl, rfl, by kernel_rfl⟩
theorem clos89 : ClosOk 89 := ⟨_, "nodes.go:1118", Tryz.func89, by kernel_rfl, rfl, rfl, by kernel_rfl⟩
theorem clos90 : ClosOk 90 := ⟨_, "nodes.go:1119", Tryz.func90, by kernel_rfl, rfl, rfl, by kernel_rfl⟩
theorem clos91 : ClosOk 91 := ⟨_, "nodes.go:1120", Tryz.func91, by kernel_rfl, rfl, rfl, by kernel_rfl⟩
theorem clos92 : ClosOk 92 := ⟨_, "nodes.go:1121", Tryz.func92, by kernel_rfl, rfl, rfl, by kernel_rfl⟩
theorem clos93 : ClosOk 93 := ⟨_, "nodes.go:1122", Tryz.func93, by kernel_rfl, rfl, rfl, by kernel_rfl⟩
theorem clos94 : ClosOk 94 := ⟨_, "nodes.go:1123", Tryz.func94, by kernel_rfl, rfl, rfl, by kernel_rfl⟩
theorem clos95 : ClosOk 95 := ⟨_, "nodes.go:1124", Tryz.func95, by kernel_rfl, rfl, rfl, by kernel_rfl⟩
theorem clos96 : ClosOk 96 := ⟨_, "nodes.go:1125", Tryz.func96, by kernel_rfl, rfl, rfl, by kernel_rfl⟩
theorem clos97 : ClosOk 97 := ⟨_, "nodes.go:1126", Tryz.func97, by kernel_rfl, rfl, rfl, by kernel_rfl⟩
theorem clos98 : ClosOk 98 := ⟨_, "nodes.go:1127", Tryz.func98, by kernel_rfl, rfl, rfl, by kernel_rfl⟩
theorem clos99 : ClosOk 99 := ⟨_, "nodes.go:1128", Tryz.func99, by kernel_rfl, rfl, rfl, by kernel_rfl⟩
theorem clos100 : ClosOk 100 := ⟨_, "nodes.go:1129", Tryz.func100, by kernel_rfl, rfl, rfl, by kernel_rfl⟩
theorem clos101 : ClosOk 101 := ⟨_, "nodes.go:1130", Tryz.func101, by kernel_rfl, rfl, rfl, by kernel_rfl⟩
theorem clos102 : ClosOk 102 := ⟨_, "nodes.go:1131", Tryz.func102, by kernel_rfl, rfl, rfl, by kernel_rfl⟩
theorem clos103 : ClosOk 103 := ⟨_, "nodes.go:1132", Tryz.func103, by kernel_rfl, rfl, rfl, by kernel_rfl⟩
theorem clos104 : ClosOk 104 := ⟨_, "nodes.go:1133", Tryz.func104, by kernel_rfl, rfl, rfl, by kernel_rfl⟩
theorem clos105 : ClosOk 105 := ⟨_, "nodes.go:1134", Tryz.func105, by kernel_rfl, rfl, rfl, by kernel_rfl⟩
theorem clos106 : ClosOk 106 := ⟨_, "nodes.go:1135", Tryz.func106, by kernel_rfl, rfl, rfl, by kernel_rfl⟩
theorem clos107 : ClosOk 107 := ⟨_, "nodes.go:1136", Tryz.func107, by kernel_rfl, rfl, rfl, by kernel_rfl⟩
theorem clos108 : ClosOk 108 := ⟨_, "nodes.go:1137", Tryz.func108, by kernel_rfl, rfl, rfl, by kernel_rfl⟩
theorem clos109 : ClosOk 109 := ⟨_, "nodes.go:1138", Tryz.func109, by kernel_rfl, rfl, rfl, by kernel_rfl⟩
theorem clos110 : ClosOk 110 := ⟨_, "nodes.go:1139", Tryz.func110, by kernel_rfl, rfl, rfl, by kernel_rfl⟩
theorem clos111 : ClosOk 111 := ⟨_, "nodes.go:1140", Tryz.func111, by kernel_rfl, rfl, rfl, by kernel_rfl⟩
theorem clos112 : ClosOk 112 := ⟨_, "nodes.go:1141", Tryz.func112, by kernel_rfl, rfl, rfl, by kernel_rfl⟩
theorem clos113 : ClosOk 113 := ⟨_, "nodes.go:1142", Tryz.func113, by kernel_rfl, rfl, rfl, by kernel_rfl⟩
theorem clos114 : ClosOk 114 := ⟨_, "nodes.go:1143", Tryz.func114, by kernel_rfl, rfl, rfl, by kernel_rfl⟩
theorem clos115 : ClosOk 115 := ⟨_, "nodes.go:1144", Tryz.func115, by kernel_rfl, rfl, rfl, by kernel_rfl⟩
theorem clos116 : ClosOk 116 := ⟨_, "nodes.go:1145", Tryz.func116, by kernel_rfl, rfl, rfl, by kernel_rfl⟩
theorem clos117 : ClosOk 117 := ⟨_, "nodes.go:1146", Tryz.func117, by kernel_rfl, rfl, rfl, by kernel_rfl⟩
theorem clos118 : ClosOk 118 := ⟨_, "nodes.go:1147", Tryz.func118, by kernel_rfl, rfl, rfl, by kernel_rfl⟩
theorem clos119 : ClosOk 119 := ⟨_, "nodes.go:1148", Tryz.func119, by kernel_rfl, rfl, rfl, by kernel_rfl⟩
theorem clos120 : ClosOk 120 := ⟨_, "nodes.go:1149", Tryz.func120, by kernel_rfl, rfl, rfl, by kernel_rfl⟩
theorem clos121 : ClosOk 121 := ⟨_, "nodes.go:1150", Tryz.func121, by kernel_rfl, rfl, rfl, by kernel_rfl⟩
theorem clos122 : ClosOk 122 := ⟨_, "nodes.go:1151", Tryz.func122, by kernel_rfl, rfl, rfl, by kernel_rfl⟩
theorem clos123 : ClosOk 123 := ⟨_, "nodes.go:1152", Tryz.func123, by kernel_rfl, rfl, rfl, by kernel_rfl⟩
theorem clos124 : ClosOk 124 := ⟨_, "nodes.go:1153", Tryz.func124, by kernel_rfl, rfl, rfl, by kernel_rfl⟩
theorem clos125 : ClosOk 125 := ⟨_, "nodes.go:1154", Tryz.func125, by kernel_rfl, rfl, rfl, by kernel_rfl⟩
theorem clos126 : ClosOk 126 := ⟨_, "nodes.go:1155", Tryz.func126, by kernel_rfl, rfl, rfl, by kernel_rfl⟩
theorem clos127 : ClosOk 127 := ⟨_, "nodes.go:1156", Tryz.func127, by kernel_rfl, rfl, rfl, by kernel_rfl⟩
theorem clos128 : ClosOk 128 := ⟨_, "nodes.go:1157", Tryz.func128, by kernel_rfl, rfl, rfl, by kernel_rfl⟩
theorem clos129 : ClosOk 129 := ⟨_, "nodes.go:1158", Tryz.func129, by kernel_rfl, rfl, rfl, by kernel_rfl⟩
theorem clos130 : ClosOk 130 := ⟨_, "nodes.go:1159", Tryz.func130, by kernel_rfl, rfl, rfl, by kernel_rfl⟩
theorem clos131 : ClosOk 131 := ⟨_, "nodes.go:1160", Tryz.func131, by kernel_rfl, rfl, rfl, by kernel_rfl⟩
theorem clos132 : ClosOk 132 := ⟨_, "nodes.go:1161", Tryz.func132, by kernel_rfl, rfl, rfl, by kernel_rfl⟩
theorem clos133 : ClosOk 133 := ⟨_, "nodes.go:1162", Tryz.func133, by kernel_rfl, rfl, rfl, by kernel_rfl⟩
theorem clos134 : ClosOk 134 := ⟨_, "nodes.go:1163", Tryz.func134, by kernel_rfl, rfl, rfl, by kernel_rfl⟩
theorem clos135 : ClosOk 135 := ⟨_, "nodes.go:1164", Tryz.func135, by kernel_rfl, rfl, rfl, by kernel_rfl⟩
theorem clos136 : ClosOk 136 := ⟨_, "nodes.go:1165", Tryz.func136, by kernel_rfl, rfl, rfl, by kernel_rfl⟩
theorem clos137 : ClosOk 137 := ⟨_, "nodes.go:1166", Tryz.func137, by kernel_rfl, rfl, rfl, by kernel_rfl⟩
theorem clos138 : ClosOk 138 := ⟨_, "nodes.go:1167", Tryz.func138, by kernel_rfl, rfl, rfl, by kernel_rfl⟩
theorem clos139 : ClosOk 139 := ⟨_, "nodes.go:1168", Tryz.func139, by kernel_rfl, rfl, rfl, by kernel_rfl⟩
theorem clos140 : ClosOk 140 := ⟨_, "nodes.go:1169", Tryz.func140, by kernel_rfl, rfl, rfl, by kernel_rfl⟩
theorem clos141 : ClosOk 141 := ⟨_, "nodes.go:1170", Tryz.func141, by kernel_rfl, rfl, rfl, by kernel_rfl⟩
theorem clos142 : ClosOk 142 := ⟨_, "nodes.go:1171", Tryz.func142, by kernel_rfl, rfl, rfl, by kernel_rfl⟩
theorem clos143 : ClosOk 143 := ⟨_, "nodes.go:1172", Tryz.func143, by kernel_rfl, rfl, rfl, by kernel_rfl⟩
theorem clos144 : ClosOk 144 := ⟨_, "nodes.go:1173", Tryz.func144, by kernel_rfl, rfl, rfl, by kernel_rfl⟩
theorem clos145 : ClosOk 145 := ⟨_, "nodes.go:1174", Tryz.func145, by kernel_rfl, rfl, rfl, by kernel_rfl⟩
theorem clos146 : ClosOk 146 := ⟨_, "nodes.go:1175", Tryz.func146, by kernel_rfl, rfl, rfl, by kernel_rfl⟩
theorem clos147 : ClosOk 147 := ⟨_, "nodes.go:1176", Tryz.func147, by kernel_rfl, rfl, rfl, by kernel_rfl⟩
theorem clos148 : ClosOk 148 := ⟨_, "nodes.go:1177", Tryz.func148, by kernel_rfl, rfl, rfl, by kernel_rfl⟩
theorem clos149 : ClosOk 149 := ⟨_, "nodes.go:1178", Tryz.func149, by kernel_rfl, rfl, rfl, by kernel_rfl⟩
theorem clos150 : ClosOk 150 := ⟨_, "nodes.go:1179", Tryz.func150, by kernel_rfl, rfl, rfl, by kernel_rfl⟩
theorem clos151 : ClosOk 151 := ⟨_, "nodes.go:1180", Tryz.func151, by kernel_rfl, rfl, rfl, by kernel_rfl⟩
theorem clos152 : ClosOk 152 := ⟨_, "nodes.go:1181", Tryz.func152, by kernel_rfl, rfl, rfl, by kernel_rfl⟩
theorem clos153 : ClosOk 153 := ⟨_, "nodes.go:1182", Tryz.func153, by kernel_rfl, rfl, rfl, by kernel_rfl⟩
theorem clos154 : ClosOk 154 := ⟨_, "nodes.go:1183", Tryz.func154, by kernel_rfl, rfl, rfl, by kernel_rfl⟩
theorem clos155 : ClosOk 155 := ⟨_, "nodes.go:1184", Tryz.func155, by kernel_rfl, rfl, rfl, by kernel_rfl⟩
theorem clos156 : ClosOk 156 := ⟨_, "nodes.go:1185", Tryz.func156, by kernel_rfl, rfl, rfl, by kernel_rfl⟩
theorem clos157 : ClosOk 157 := ⟨_, "nodes.go:1186", Tryz.func157, by kernel_rfl, rfl, rfl, by kernel_rfl⟩
theorem clos158 : ClosOk 158 := ⟨_, "nodes.go:1187", Tryz.func158, by kernel_rfl, rfl, rfl, by kernel_rfl⟩
theorem clos159 : ClosOk 159 := ⟨_, "nodes.go:1188", Tryz.func159, by kernel_rfl, rfl, rfl, by kernel_rfl⟩
theorem clos160 : ClosOk 160 := ⟨_, "nodes.go:1189", Tryz.func160, by kernel_rfl, rfl, rfl, by kernel_rfl⟩
theorem clos161 : ClosOk 161 := ⟨_, "nodes.go:1190", Tryz.func161, by kernel_rfl, rfl, rfl, by kernel_rfl⟩
theorem clos162 : ClosOk 162 := ⟨_, "nodes.go:1191", Tryz.func162, by kernel_rfl, rfl, rfl, by kernel_rfl⟩
theorem clos163 : ClosOk 163 := ⟨_, "nodes.go:1192", Tryz.func163, by kernel_rfl, rfl, rfl, by kernel_rfl⟩
theorem clos164 : ClosOk 164 := ⟨_, "nodes.go:1193", Tryz.func164, by kernel_rfl, rfl, rfl, by kernel_rfl⟩
theorem clos165 : ClosOk 165 := ⟨_, "nodes.go:1194", Tryz.func165, by kernel_rfl, rfl, rfl, by kernel_rfl⟩
theorem clos166 : ClosOk 166 := ⟨_, "nodes.go:1195", Tryz.func166, by kernel_rfl, rfl, rfl, by kernel_rfl⟩
theorem clos167 : ClosOk 167 := ⟨_, "nodes.go:1196", Tryz.func167, by kernel_rfl, rfl, rfl, by kernel_rfl⟩
theorem clos168 : ClosOk 168 := ⟨_, "nodes.go:1197", Tryz.func168, by kernel_rfl, rfl, rfl, by kernel_rfl⟩
theorem clos169 : ClosOk 169 := ⟨_, "nodes.go:1198", Tryz.func169, by kernel_rfl, rfl, rfl, by kernel_rfl⟩
theorem clos170 : ClosOk 170 := ⟨_, "nodes.go:1199", Tryz.func170, by kernel_rfl, rfl, rfl, by kernel_rfl⟩
theorem clos171 : ClosOk 171 := ⟨_, "nodes.go:1200", Tryz.func171, by kernel_rfl, rfl, rfl, by kernel_rfl⟩
theorem clos172 : ClosOk 172 := ⟨_, "nodes.go:1201", Tryz.func172, by kernel_rfl, rfl, rfl, by kernel_rfl⟩
theorem clos173 : ClosOk 173 := ⟨_, "nodes.go:1202", Tryz.func173, by kernel_rfl, rfl, rfl, by kernel_rfl⟩
theorem clos174 : ClosOk 174 := ⟨_, "nodes.go:1203", Tryz.func174, by kernel_rfl, rfl, rfl, by kernel_rfl⟩
theorem clos175 : ClosOk 175 := ⟨_, "nodes.go:1204", Tryz.func175, by kernel_rfl, rfl, rfl, by kernel_rfl⟩
theorem clos176 : ClosOk 176 := ⟨_, "nodes.go:1205", Tryz.func176, by kernel_rfl, rfl, rfl, by kernel_rfl⟩
theorem clos177 : ClosOk 177 := ⟨_, "nodes.go:1206", Tryz.func177, by kernel_rfl, rfl, rfl, by kernel_rfl⟩
theorem clos178 : ClosOk 178 := ⟨_, "nodes.go:1207", Tryz.func178, by kernel_rfl, rfl, rfl, by kernel_rfl⟩
theorem clos179 : ClosOk 179 := ⟨_, "nodes.go:1214", Tryz.func179, by kernel_rfl, rfl, rfl, by kernel_rfl⟩
theorem clos180 : ClosOk 180 := ⟨_, "nodes.go:1215", Tryz.func180, by kernel_rfl, rfl, rfl, by kernel_rfl⟩
theorem clos181 : ClosOk 181 := ⟨_, "nodes.go:1216", Tryz.func181, by kernel_rfl, rfl, rfl, by kernel_rfl⟩
theorem clos182 : ClosOk 182 := ⟨_, "nodes.go:1217", Tryz.func182, by kernel_rfl, rfl, rfl, by kernel_rfl⟩
theorem clos183 : ClosOk 183 := ⟨_, "nodes.go:1218", Tryz.func183, by kernel_rfl, rfl, rfl, by kernel_rfl⟩
theorem clos184 : ClosOk 184 := ⟨_, "nodes.go:1219", Tryz.func184, by kernel_rfl, rfl, rfl, by kernel_rfl⟩
theorem clos185 : ClosOk 185 := ⟨_, "nodes.go:1220", Tryz.func185, by kernel_rfl, rfl, rfl, by kernel_rfl⟩
theorem clos186 : ClosOk 186 := ⟨_, "nodes.go:1221", Tryz.func186, by kernel_rfl, rfl, rfl, by kernel_rfl⟩
theorem clos187 : ClosOk 187 := ⟨_, "nodes.go:1222", Tryz.func187, by kernel_rfl, rfl, rfl, by kernel_rfl⟩
theorem clos188 : ClosOk 188 := ⟨_, "nodes.go:1223", Tryz.func188, by kernel_rfl, rfl, rfl, by kernel_rfl⟩
theorem clos189 : ClosOk 189 := ⟨_, "nodes.go:1224", Tryz.func189, by kernel_rfl, rfl, rfl, by kernel_rfl⟩
theorem clos190 : ClosOk 190 := ⟨_, "nodes.go:1225", Tryz.func190, by kernel_rfl, rfl, rfl, by kernel_rfl⟩
theorem clos191 : ClosOk 191 := ⟨_, "nodes.go:1226", Tryz.func191, by kernel_rfl, rfl, rfl, by kernel_rfl⟩
theorem clos192 : ClosOk 192 := ⟨_, "nodes.go:1227", Tryz.func192, by kernel_rfl, rfl, rfl, by kernel_rfl⟩
theorem clos193 : ClosOk 193 := ⟨_, "nodes.go:1228", Tryz.func193, by kernel_rfl, rfl, rfl, by kernel_rfl⟩
theorem clos194 : ClosOk 194 := ⟨_, "nodes.go:1229", Tryz.func194, by kernel_rfl, rfl, rfl, by kernel_rfl⟩
theorem clos195 : ClosOk 195 := ⟨_, "nodes.go:1230", Tryz.func195, by kernel_rfl, rfl, rfl, by kernel_rfl⟩
theorem clos196 : ClosOk 196 := ⟨_, "nodes.go:1231", Tryz.func196, by kernel_rfl, rfl, rfl, by kernel_rfl⟩
set_option maxRecDepth 100000 in
theorem tcpFlds_clos : ∀ x ∈ tcpFlds, ClosOk x.k := by
  unfold tcpFlds
  exact List.forall_mem_cons.2 ⟨clos56, List.forall_mem_cons.2 ⟨clos57, List.forall_mem_cons.2 ⟨clos58, List.forall_mem_cons.2 ⟨clos59, List.forall_mem_cons.2 ⟨clos60, List.forall_mem_cons.2 ⟨clos61, List.forall_mem_cons.2 ⟨clos62, List.forall_mem_cons.2 ⟨clos63, List.forall_mem_cons.2 ⟨clos64, List.forall_mem_cons.2 ⟨clos65, List.forall_mem_cons.2 ⟨clos66, List.forall_mem_cons.2 ⟨clos67, List.forall_mem_cons.2 ⟨clos68, List.forall_mem_cons.2 ⟨clos69, List.forall_mem_cons.2 ⟨clos70, List.forall_mem_cons.2 ⟨clos71, List.forall_mem_cons.2 ⟨clos72, List.forall_mem_cons.2 ⟨clos73, List.forall_mem_cons.2 ⟨clos74, List.forall_mem_cons.2 ⟨clos75, List.forall_mem_cons.2 ⟨clos76, List.forall_mem_cons.2 ⟨clos77, List.forall_mem_cons.2 ⟨clos78, List.forall_mem_cons.2 ⟨clos79, List.forall_mem_cons.2 ⟨clos80, List.forall_mem_cons.2 ⟨clos81, List.forall_mem_cons.2 ⟨clos82, List.forall_mem_cons.2 ⟨clos83, List.forall_mem_cons.2 ⟨clos84, List.forall_mem_cons.2 ⟨clos85, List.forall_mem_cons.2 ⟨clos86, List.forall_mem_cons.2 ⟨clos87, List.forall_mem_cons.2 ⟨clos88, List.forall_mem_cons.2 ⟨clos89, List.forall_mem_cons.2 ⟨clos90, List.forall_mem_cons.2 ⟨clos91, List.forall_mem_cons.2 ⟨clos92, List.forall_mem_cons.2 ⟨clos93, List.forall_mem_cons.2 ⟨clos94, List.forall_mem_cons.2 ⟨clos95, List.forall_mem_cons.2 ⟨clos96, List.forall_mem_cons.2 ⟨clos97, List.forall_mem_cons.2 ⟨clos98, List.forall_mem_cons.2 ⟨clos99, List.forall_mem_cons.2 ⟨clos100, List.forall_mem_cons.2 ⟨clos101, List.forall_mem_cons.2 ⟨clos102, List.forall_mem_cons.2 ⟨clos103, List.forall_mem_cons.2 ⟨clos104, List.forall_mem_cons.2 ⟨clos105, List.forall_mem_cons.2 ⟨clos106, List.forall_mem_cons.2 ⟨clos107, List.forall_mem_cons.2 ⟨clos108, List.forall_mem_cons.2 ⟨clos109, List.forall_mem_cons.2 ⟨clos110, List.forall_mem_cons.2 ⟨clos111, List.forall_mem_cons.2 ⟨clos112, List.forall_mem_cons.2 ⟨clos113, List.forall_mem_cons.2 ⟨clos114, List.forall_mem_cons.2 ⟨clos115, List.forall_mem_cons.2 ⟨clos116, List.forall_mem_cons.2 ⟨clos117, List.forall_mem_cons.2 ⟨clos118, List.forall_mem_cons.2 ⟨clos119, List.forall_mem_cons.2 ⟨clos120, List.forall_mem_cons.2 ⟨clos121, List.forall_mem_cons.2 ⟨clos122, List.forall_mem_cons.2 ⟨clos123, List.forall_mem_cons.2 ⟨clos124, List.forall_mem_cons.2 ⟨clos125, List.forall_mem_cons.2 ⟨clos126, List.forall_mem_cons.2 ⟨clos127, List.forall_mem_cons.2 ⟨clos128, List.forall_mem_cons.2 ⟨clos129, List.forall_mem_cons.2 ⟨clos130, List.forall_mem_cons.2 ⟨clos131, List.forall_mem_cons.2 ⟨clos132, List.forall_mem_cons.2 ⟨clos133, List.forall_mem_cons.2 ⟨clos134, List.forall_mem_cons.2 ⟨clos135, List.forall_mem_cons.2 ⟨clos136, List.forall_mem_cons.2 ⟨clos137, List.forall_mem_cons.2 ⟨clos138, List.forall_mem_cons.2 ⟨clos139, List.forall_mem_cons.2 ⟨clos140, List.forall_mem_cons.2 ⟨clos141, List.forall_mem_cons.2 ⟨clos142, List.forall_mem_cons.2 ⟨clos143, List.forall_mem_cons.2 ⟨clos144, List.forall_mem_cons.2 ⟨clos145, List.forall_mem_cons.2 ⟨clos146, List.forall_mem_cons.2 ⟨clos147, List.forall_mem_cons.2 ⟨clos148, List.forall_mem_cons.2 ⟨clos149, List.forall_mem_cons.2 ⟨clos150, List.forall_mem_cons.2 ⟨clos151, List.forall_mem_cons.2 ⟨clos152, List.forall_mem_cons.2 ⟨clos153, List.forall_mem_cons.2 ⟨clos154, List.forall_mem_cons.2 ⟨clos155, List.forall_mem_cons.2 ⟨clos156, List.forall_mem_cons.2 ⟨clos157, List.forall_mem_cons.2 ⟨clos158, List.forall_mem_cons.2 ⟨clos159, List.forall_mem_cons.2 ⟨clos160, List.forall_mem_cons.2 ⟨clos161, List.forall_mem_cons.2 ⟨clos162, List.forall_mem_cons.2 ⟨clos163, List.forall_mem_cons.2 ⟨clos164, List.forall_mem_cons.2 ⟨clos165, List.forall_mem_cons.2 ⟨clos166, List.forall_mem_cons.2 ⟨clos167, List.forall_mem_cons.2 ⟨clos168, List.forall_mem_cons.2 ⟨clos169, List.forall_mem_cons.2 ⟨clos170, List.forall_mem_cons.2 ⟨clos171, List.forall_mem_cons.2 ⟨clos172, List.forall_mem_cons.2 ⟨clos173, List.forall_mem_cons.2 ⟨clos174, List.forall_mem_cons.2 ⟨clos175, List.forall_mem_cons.2 ⟨clos176, List.forall_mem_cons.2 ⟨clos177, List.forall_mem_cons.2 ⟨clos178, fun _ h => absurd h List.not_mem_nil⟩⟩⟩⟩⟩⟩⟩⟩⟩⟩⟩⟩⟩⟩⟩⟩⟩⟩⟩⟩⟩⟩⟩⟩⟩⟩⟩⟩⟩⟩⟩⟩⟩⟩⟩⟩⟩⟩⟩⟩⟩⟩⟩⟩⟩⟩⟩⟩⟩⟩⟩⟩⟩⟩⟩⟩⟩⟩⟩⟩⟩⟩⟩⟩⟩⟩⟩⟩⟩⟩⟩⟩⟩⟩⟩⟩⟩⟩⟩⟩⟩⟩⟩⟩⟩⟩⟩⟩⟩⟩⟩⟩⟩⟩⟩⟩⟩⟩⟩⟩⟩⟩⟩⟩⟩⟩⟩⟩⟩⟩⟩⟩⟩⟩⟩⟩⟩⟩⟩⟩⟩⟩⟩
set_option maxRecDepth 100000 in
theorem ipFlds_clos : ∀ x ∈ ipFlds, ClosOk x.k := by
  unfold ipFlds
  exact List.forall_mem_cons.2 ⟨clos179, List.forall_mem_cons.2 ⟨clos180, List.forall_mem_cons.2 ⟨clos181, List.forall_mem_cons.2 ⟨clos182, List.forall_mem_cons.2 ⟨clos183, List.forall_mem_cons.2 ⟨clos184, List.forall_mem_cons.2 ⟨clos185, List.forall_mem_cons.2 ⟨clos186, List.forall_mem_cons.2 ⟨clos187, List.forall_mem_cons.2 ⟨clos188, List.forall_mem_cons.2 ⟨clos189, List.forall_mem_cons.2 ⟨clos190, List.forall_mem_cons.2 ⟨clos191, List.forall_mem_cons.2 ⟨clos192, List.forall_mem_cons.2 ⟨clos193, List.forall_mem_cons.2 ⟨clos194, List.forall_mem_cons.2 ⟨clos195, List.forall_mem_cons.2 ⟨clos196, fun _ h => absurd h List.not_mem_nil⟩⟩⟩⟩⟩⟩⟩⟩⟩⟩⟩⟩⟩⟩⟩⟩⟩⟩
set_option maxRecDepth 1000000 in
theorem tcp_tabs : tabsOk 54 tcpFlds 8 0 = true := by kernel_rfl
theorem ip_tabs : tabsOk 56 ipFlds 8 0 = true := by kernel_rfl
set_option maxRecDepth 1000000 in
theorem body38 : Tryz.f38.body = some (.seq (.region 0 #[mkO "nodes.go:1083" (some 3) (.box 54 (.tmp 1)) 0 [], mkO "nodes.go:1083" (some 4) (.alloc 43) 0 []] false)
      (.seq (.region 1 #[mkO "nodes.go:1084" (some 6) (.move (.tmp 0)) 9 [], mkO "nodes.go:1084" (some 7) (.build 43 #[(0, .tmp 6), (1, .const (.int .i64 8))]) 43 [⟨0, .data⟩], mkO "nodes.go:1084" (some 5) (.alloc 43) 0 [], mkO "nodes.go:1084" none (.store 43 (.tmp 5) (.tmp 7)) 0 [⟨2, .data⟩, ⟨1, .data⟩, ⟨0, .phase⟩, ⟨1, .phase⟩, ⟨2, .phase⟩]] false)
        (recsCode 54 "nodes.go:1208" tcpFlds 2 8 0))) := by kernel_rfl
set_option maxRecDepth 100000 in
set_option maxHeartbeats 1000000 in
theorem tcp_calls (name : ByteArray) (args : Array Value) (M : Nat → Option Nat) (B : Nat) (w : World) (hM : ∀ j, j < 123 → ∃ v, args[j]? = some v ∧ PtrAt w B v (M j)) : Calls Tryz.prog 38 #[.string name, .agg args] w (ElPost w (recM name (kidsFrom M tcpFlds 0))) := by
  refine calls_of_wp Tryz.func38 body38 ?_
  obtain ⟨a, ha⟩ : ∃ a : Act, a = { tmps := #[.string name, .agg args] ++ Array.replicate (Tryz.f38.ntmps - (#[.string name, .agg args] : Array Value).size) undef, defers := [] } := ⟨_, rfl⟩
  rw [← ha]
  have e0 : a.eval (.tmp 0) = .string name := by rw [ha]; simp only [Act.eval, Array.getD_eq_getD_getElem?]; rw [Array.getElem?_append_left (by simp)]; rfl
  have e1 : a.eval (.tmp 1) = .agg args := by rw [ha]; simp only [Act.eval, Array.getD_eq_getD_getElem?]; rw [Array.getElem?_append_left (by simp)]; rfl
  have hd : a.defers = [] := by rw [ha]
  have hsz : a.tmps.size = 993 := by
    rw [ha]
    have : Tryz.f38.ntmps = 993 := Tryz.ntmps38
    simp [this]
  clear ha
  have hl : tcpFlds.length = 123 := by kernel_rfl
  refine head_wp 54 _ _ _ _ name args a w e0 e1 (by omega) ?_
  intro a1 W1 q1 q2 q3 q4 q5 q6
  exact recs_wp 54 123 B "nodes.go:1208" Tryz.f38 rfl w name args M tcp_field hM tcpFlds 2 8 0 a1 W1 _ [] (by omega) tcp_tabs tcpFlds_clos q6 (by simp; omega) (by omega) (by omega) q3 q4 q5 (q2.trans hd)
set_option maxRecDepth 1000000 in
theorem body39 : Tryz.f39.body = some (.seq (.region 0 #[mkO "nodes.go:1212" (some 3) (.box 56 (.tmp 1)) 0 [], mkO "nodes.go:1212" (some 4) (.alloc 43) 0 []] false)
      (.seq (.region 1 #[mkO "nodes.go:1213" (some 6) (.move (.tmp 0)) 9 [], mkO "nodes.go:1213" (some 7) (.build 43 #[(0, .tmp 6), (1, .const (.int .i64 8))]) 43 [⟨0, .data⟩], mkO "nodes.go:1213" (some 5) (.alloc 43) 0 [], mkO "nodes.go:1213" none (.store 43 (.tmp 5) (.tmp 7)) 0 [⟨2, .data⟩, ⟨1, .data⟩, ⟨0, .phase⟩, ⟨1, .phase⟩, ⟨2, .phase⟩]] false)
        (recsCode 56 "nodes.go:1232" ipFlds 2 8 0))) := by kernel_rfl
set_option maxRecDepth 100000 in
set_option maxHeartbeats 1000000 in
theorem ip_calls (name : ByteArray) (args : Array Value) (M : Nat → Option Nat) (B : Nat) (w : World) (hM : ∀ j, j < 18 → ∃ v, args[j]? = some v ∧ PtrAt w B v (M j)) : Calls Tryz.prog 39 #[.string name, .agg args] w (ElPost w (recM name (kidsFrom M ipFlds 0))) := by
  refine calls_of_wp Tryz.func39 body39 ?_
  obtain ⟨a, ha⟩ : ∃ a : Act, a = { tmps := #[.string name, .agg args] ++ Array.replicate (Tryz.f39.ntmps - (#[.string name, .agg args] : Array Value).size) undef, defers := [] } := ⟨_, rfl⟩
  rw [← ha]
  have e0 : a.eval (.tmp 0) = .string name := by rw [ha]; simp only [Act.eval, Array.getD_eq_getD_getElem?]; rw [Array.getElem?_append_left (by simp)]; rfl
  have e1 : a.eval (.tmp 1) = .agg args := by rw [ha]; simp only [Act.eval, Array.getD_eq_getD_getElem?]; rw [Array.getElem?_append_left (by simp)]; rfl
  have hd : a.defers = [] := by rw [ha]
  have hsz : a.tmps.size = 153 := by
    rw [ha]
    have : Tryz.f39.ntmps = 153 := Tryz.ntmps39
    simp [this]
  clear ha
  have hl : ipFlds.length = 18 := by kernel_rfl
  refine head_wp 56 _ _ _ _ name args a w e0 e1 (by omega) ?_
  intro a1 W1 q1 q2 q3 q4 q5 q6
  exact recs_wp 56 18 B "nodes.go:1232" Tryz.f39 rfl w name args M ip_field hM ipFlds 2 8 0 a1 W1 _ [] (by omega) ip_tabs ipFlds_clos q6 (by simp; omega) (by omega) (by omega) q3 q4 q5 (q2.trans hd)
end Go.Proofs.YtabfglmpnkgecaaGreatDoor.X
