/- xfsStats: its lines. -/
import Derived.Test.YtfcalbjebomgcaaGreatDoorM14
set_option linter.unusedVariables false
set_option linter.unusedSimpArgs false
namespace Go.Proofs.YtfcalbjebomgcaaGreatDoor.X
open Go.RowKit Go.Proofs.YtfcalbjebomgcaaGreatDoorW.PrintWords Go.Proofs.YtfcalbjebomgcaaGreatDoorW.PrintLast Go.Proofs.YtfcalbjebomgcaaGreatDoorW.PrintMore Go.Proofs.YtfcalbjebomgcaaGreatDoor.Q
/-- The lines of the record, by their numbers. -/
def statLns (M : Nat → List Int) : List Ln := [⟨ "nodes.go:669", 78, 68, ⟨#[69, 120, 116, 101, 110, 116, 65, 108, 108, 111, 99, 97, 116, 105, 111, 110]⟩, (M 0).map (Value.int .u32), (rf78.zip (M 0)).map (fun p => uintM p.1.1 p.2)⟩, ⟨ "nodes.go:670", 79, 70, ⟨#[65, 108, 108, 111, 99, 97, 116, 105, 111, 110, 66, 84, 114, 101, 101]⟩, (M 1).map (Value.int .u32), (rf79.zip (M 1)).map (fun p => uintM p.1.1 p.2)⟩, ⟨ "nodes.go:671", 80, 72, ⟨#[66, 108, 111, 99, 107, 77, 97, 112, 112, 105, 110, 103]⟩, (M 2).map (Value.int .u32), (rf80.zip (M 2)).map (fun p => uintM p.1.1 p.2)⟩, ⟨ "nodes.go:672", 79, 70, ⟨#[66, 108, 111, 99, 107, 77, 97, 112, 66, 84, 114, 101, 101]⟩, (M 3).map (Value.int .u32), (rf79.zip (M 3)).map (fun p => uintM p.1.1 p.2)⟩, ⟨ "nodes.go:673", 81, 74, ⟨#[68, 105, 114, 101, 99, 116, 111, 114, 121, 79, 112, 101, 114, 97, 116, 105, 111, 110]⟩, (M 4).map (Value.int .u32), (rf81.zip (M 4)).map (fun p => uintM p.1.1 p.2)⟩, ⟨ "nodes.go:674", 82, 76, ⟨#[84, 114, 97, 110, 115, 97, 99, 116, 105, 111, 110]⟩, (M 5).map (Value.int .u32), (rf82.zip (M 5)).map (fun p => uintM p.1.1 p.2)⟩, ⟨ "nodes.go:675", 83, 78, ⟨#[73, 110, 111, 100, 101, 79, 112, 101, 114, 97, 116, 105, 111, 110]⟩, (M 6).map (Value.int .u32), (rf83.zip (M 6)).map (fun p => uintM p.1.1 p.2)⟩, ⟨ "nodes.go:676", 84, 80, ⟨#[76, 111, 103, 79, 112, 101, 114, 97, 116, 105, 111, 110]⟩, (M 7).map (Value.int .u32), (rf84.zip (M 7)).map (fun p => uintM p.1.1 p.2)⟩, ⟨ "nodes.go:677", 85, 82, ⟨#[82, 101, 97, 100, 87, 114, 105, 116, 101]⟩, (M 8).map (Value.int .u32), (rf85.zip (M 8)).map (fun p => uintM p.1.1 p.2)⟩, ⟨ "nodes.go:678", 86, 84, ⟨#[65, 116, 116, 114, 105, 98, 117, 116, 101, 79, 112, 101, 114, 97, 116, 105, 111, 110]⟩, (M 9).map (Value.int .u32), (rf86.zip (M 9)).map (fun p => uintM p.1.1 p.2)⟩, ⟨ "nodes.go:679", 87, 86, ⟨#[73, 110, 111, 100, 101, 67, 108, 117, 115, 116, 101, 114, 105, 110, 103]⟩, (M 10).map (Value.int .u32), (rf87.zip (M 10)).map (fun p => uintM p.1.1 p.2)⟩, ⟨ "nodes.go:680", 88, 88, ⟨#[86, 110, 111, 100, 101]⟩, (M 11).map (Value.int .u32), (rf88.zip (M 11)).map (fun p => uintM p.1.1 p.2)⟩, ⟨ "nodes.go:681", 89, 90, ⟨#[66, 117, 102, 102, 101, 114]⟩, (M 12).map (Value.int .u32), (rf89.zip (M 12)).map (fun p => uintM p.1.1 p.2)⟩, ⟨ "nodes.go:682", 90, 92, ⟨#[69, 120, 116, 101, 110, 100, 101, 100, 80, 114, 101, 99, 105, 115, 105, 111, 110]⟩, (M 13).map (Value.int .u64), (rf90.zip (M 13)).map (fun p => uintM p.1.1 p.2)⟩, ⟨ "nodes.go:683", 91, 94, ⟨#[88, 115, 116, 114, 97, 116]⟩, (M 14).map (Value.int .u32), (rf91.zip (M 14)).map (fun p => uintM p.1.1 p.2)⟩, ⟨ "nodes.go:684", 92, 96, ⟨#[80, 117, 115, 104, 65, 105, 108]⟩, (M 15).map (Value.int .u32), (rf92.zip (M 15)).map (fun p => uintM p.1.1 p.2)⟩, ⟨ "nodes.go:685", 93, 98, ⟨#[68, 101, 98, 117, 103]⟩, (M 16).map (Value.int .u32), (rf93.zip (M 16)).map (fun p => uintM p.1.1 p.2)⟩, ⟨ "nodes.go:686", 94, 100, ⟨#[81, 117, 111, 116, 97, 77, 97, 110, 97, 103, 101, 114]⟩, (M 17).map (Value.int .u32), (rf94.zip (M 17)).map (fun p => uintM p.1.1 p.2)⟩, ⟨ "nodes.go:687", 95, 102, ⟨#[66, 116, 114, 101, 101, 65, 108, 108, 111, 99, 66, 108, 111, 99, 107, 115, 50]⟩, (M 18).map (Value.int .u32), (rf95.zip (M 18)).map (fun p => uintM p.1.1 p.2)⟩, ⟨ "nodes.go:688", 96, 103, ⟨#[66, 116, 114, 101, 101, 65, 108, 108, 111, 99, 67, 111, 110, 116, 105, 103, 50]⟩, (M 19).map (Value.int .u32), (rf96.zip (M 19)).map (fun p => uintM p.1.1 p.2)⟩, ⟨ "nodes.go:689", 97, 104, ⟨#[66, 116, 114, 101, 101, 66, 108, 111, 99, 107, 77, 97, 112, 50]⟩, (M 20).map (Value.int .u32), (rf97.zip (M 20)).map (fun p => uintM p.1.1 p.2)⟩, ⟨ "nodes.go:690", 98, 105, ⟨#[66, 116, 114, 101, 101, 73, 110, 111, 100, 101, 50]⟩, (M 21).map (Value.int .u32), (rf98.zip (M 21)).map (fun p => uintM p.1.1 p.2)⟩, ⟨ "nodes.go:691", 99, 106, ⟨#[66, 116, 114, 101, 101, 70, 114, 101, 101, 73, 110, 111, 100, 101, 50]⟩, (M 22).map (Value.int .u32), (rf99.zip (M 22)).map (fun p => uintM p.1.1 p.2)⟩, ⟨ "nodes.go:692", 100, 107, ⟨#[66, 116, 114, 101, 101, 82, 101, 118, 101, 114, 115, 101, 77, 97, 112]⟩, (M 23).map (Value.int .u32), (rf100.zip (M 23)).map (fun p => uintM p.1.1 p.2)⟩, ⟨ "nodes.go:693", 101, 108, ⟨#[66, 116, 114, 101, 101, 82, 101, 102, 67, 111, 117, 110, 116]⟩, (M 24).map (Value.int .u32), (rf101.zip (M 24)).map (fun p => uintM p.1.1 p.2)⟩, ⟨ "nodes.go:694", 102, 109, ⟨#[66, 116, 114, 101, 101, 82, 101, 118, 101, 114, 115, 101, 77, 97, 112, 77, 101, 109]⟩, (M 25).map (Value.int .u32), (rf102.zip (M 25)).map (fun p => uintM p.1.1 p.2)⟩, ⟨ "nodes.go:695", 103, 110, ⟨#[66, 116, 114, 101, 101, 82, 99, 98, 97, 103]⟩, (M 26).map (Value.int .u32), (rf103.zip (M 26)).map (fun p => uintM p.1.1 p.2)⟩, ⟨ "nodes.go:696", 104, 111, ⟨#[66, 116, 114, 101, 101, 82, 116, 82, 101, 118, 101, 114, 115, 101, 77, 97, 112]⟩, (M 27).map (Value.int .u32), (rf104.zip (M 27)).map (fun p => uintM p.1.1 p.2)⟩, ⟨ "nodes.go:697", 105, 112, ⟨#[66, 116, 114, 101, 101, 82, 116, 82, 101, 118, 101, 114, 115, 101, 77, 97, 112, 77, 101, 109]⟩, (M 28).map (Value.int .u32), (rf105.zip (M 28)).map (fun p => uintM p.1.1 p.2)⟩, ⟨ "nodes.go:698", 106, 113, ⟨#[66, 116, 114, 101, 101, 82, 116, 82, 101, 102, 67, 111, 117, 110, 116]⟩, (M 29).map (Value.int .u32), (rf106.zip (M 29)).map (fun p => uintM p.1.1 p.2)⟩, ⟨ "nodes.go:699", 107, 115, ⟨#[90, 111, 110, 101, 100]⟩, (M 30).map (Value.int .u32), (rf107.zip (M 30)).map (fun p => uintM p.1.1 p.2)⟩, ⟨ "nodes.go:700", 108, 117, ⟨#[77, 101, 116, 97, 70, 105, 108, 101]⟩, (M 31).map (Value.int .u32), (rf108.zip (M 31)).map (fun p => uintM p.1.1 p.2)⟩, ⟨ "nodes.go:701", 109, 119, ⟨#[68, 101, 102, 101, 114, 82, 101, 108, 111, 103]⟩, (M 32).map (Value.int .u64), (rf109.zip (M 32)).map (fun p => uintM p.1.1 p.2)⟩, ⟨ "nodes.go:702", 110, 121, ⟨#[71, 99, 88, 112, 99]⟩, (M 33).map (Value.int .u64), (rf110.zip (M 33)).map (fun p => uintM p.1.1 p.2)⟩]
def statLens : List Nat := [4, 4, 7, 4, 4, 3, 7, 5, 2, 4, 3, 8, 9, 3, 2, 10, 1, 9, 15, 15, 15, 15, 15, 15, 15, 15, 15, 15, 15, 15, 3, 1, 1, 1]
theorem stats_body (M : Nat → List Int) : Tryz.f25.body = some (statsCode 123 "nodes.go:666" "nodes.go:667" "nodes.go:668" "nodes.go:703" ⟨#[78, 97, 109, 101]⟩ (statLns M)) := by kernel_rfl
theorem stats_tab0 : rtab .any (callOps "nodes.go:669" 123 1 16 78 68 ⟨#[69, 120, 116, 101, 110, 116, 65, 108, 108, 111, 99, 97, 116, 105, 111, 110]⟩).toArray = callT := by kernel_rfl
theorem stats_tab1 : rtab .any (callOps "nodes.go:670" 123 2 24 79 70 ⟨#[65, 108, 108, 111, 99, 97, 116, 105, 111, 110, 66, 84, 114, 101, 101]⟩).toArray = callT := by kernel_rfl
theorem stats_tab2 : rtab .any (callOps "nodes.go:671" 123 3 32 80 72 ⟨#[66, 108, 111, 99, 107, 77, 97, 112, 112, 105, 110, 103]⟩).toArray = callT := by kernel_rfl
theorem stats_tab3 : rtab .any (callOps "nodes.go:672" 123 4 40 79 70 ⟨#[66, 108, 111, 99, 107, 77, 97, 112, 66, 84, 114, 101, 101]⟩).toArray = callT := by kernel_rfl
theorem stats_tab4 : rtab .any (callOps "nodes.go:673" 123 5 48 81 74 ⟨#[68, 105, 114, 101, 99, 116, 111, 114, 121, 79, 112, 101, 114, 97, 116, 105, 111, 110]⟩).toArray = callT := by kernel_rfl
theorem stats_tab5 : rtab .any (callOps "nodes.go:674" 123 6 56 82 76 ⟨#[84, 114, 97, 110, 115, 97, 99, 116, 105, 111, 110]⟩).toArray = callT := by kernel_rfl
theorem stats_tab6 : rtab .any (callOps "nodes.go:675" 123 7 64 83 78 ⟨#[73, 110, 111, 100, 101, 79, 112, 101, 114, 97, 116, 105, 111, 110]⟩).toArray = callT := by kernel_rfl
theorem stats_tab7 : rtab .any (callOps "nodes.go:676" 123 8 72 84 80 ⟨#[76, 111, 103, 79, 112, 101, 114, 97, 116, 105, 111, 110]⟩).toArray = callT := by kernel_rfl
theorem stats_tab8 : rtab .any (callOps "nodes.go:677" 123 9 80 85 82 ⟨#[82, 101, 97, 100, 87, 114, 105, 116, 101]⟩).toArray = callT := by kernel_rfl
theorem stats_tab9 : rtab .any (callOps "nodes.go:678" 123 10 88 86 84 ⟨#[65, 116, 116, 114, 105, 98, 117, 116, 101, 79, 112, 101, 114, 97, 116, 105, 111, 110]⟩).toArray = callT := by kernel_rfl
theorem stats_tab10 : rtab .any (callOps "nodes.go:679" 123 11 96 87 86 ⟨#[73, 110, 111, 100, 101, 67, 108, 117, 115, 116, 101, 114, 105, 110, 103]⟩).toArray = callT := by kernel_rfl
theorem stats_tab11 : rtab .any (callOps "nodes.go:680" 123 12 104 88 88 ⟨#[86, 110, 111, 100, 101]⟩).toArray = callT := by kernel_rfl
theorem stats_tab12 : rtab .any (callOps "nodes.go:681" 123 13 112 89 90 ⟨#[66, 117, 102, 102, 101, 114]⟩).toArray = callT := by kernel_rfl
theorem stats_tab13 : rtab .any (callOps "nodes.go:682" 123 14 120 90 92 ⟨#[69, 120, 116, 101, 110, 100, 101, 100, 80, 114, 101, 99, 105, 115, 105, 111, 110]⟩).toArray = callT := by kernel_rfl
theorem stats_tab14 : rtab .any (callOps "nodes.go:683" 123 15 128 91 94 ⟨#[88, 115, 116, 114, 97, 116]⟩).toArray = callT := by kernel_rfl
theorem stats_tab15 : rtab .any (callOps "nodes.go:684" 123 16 136 92 96 ⟨#[80, 117, 115, 104, 65, 105, 108]⟩).toArray = callT := by kernel_rfl
theorem stats_tab16 : rtab .any (callOps "nodes.go:685" 123 17 144 93 98 ⟨#[68, 101, 98, 117, 103]⟩).toArray = callT := by kernel_rfl
theorem stats_tab17 : rtab .any (callOps "nodes.go:686" 123 18 152 94 100 ⟨#[81, 117, 111, 116, 97, 77, 97, 110, 97, 103, 101, 114]⟩).toArray = callT := by kernel_rfl
theorem stats_tab18 : rtab .any (callOps "nodes.go:687" 123 19 160 95 102 ⟨#[66, 116, 114, 101, 101, 65, 108, 108, 111, 99, 66, 108, 111, 99, 107, 115, 50]⟩).toArray = callT := by kernel_rfl
theorem stats_tab19 : rtab .any (callOps "nodes.go:688" 123 20 168 96 103 ⟨#[66, 116, 114, 101, 101, 65, 108, 108, 111, 99, 67, 111, 110, 116, 105, 103, 50]⟩).toArray = callT := by kernel_rfl
theorem stats_tab20 : rtab .any (callOps "nodes.go:689" 123 21 176 97 104 ⟨#[66, 116, 114, 101, 101, 66, 108, 111, 99, 107, 77, 97, 112, 50]⟩).toArray = callT := by kernel_rfl
theorem stats_tab21 : rtab .any (callOps "nodes.go:690" 123 22 184 98 105 ⟨#[66, 116, 114, 101, 101, 73, 110, 111, 100, 101, 50]⟩).toArray = callT := by kernel_rfl
theorem stats_tab22 : rtab .any (callOps "nodes.go:691" 123 23 192 99 106 ⟨#[66, 116, 114, 101, 101, 70, 114, 101, 101, 73, 110, 111, 100, 101, 50]⟩).toArray = callT := by kernel_rfl
theorem stats_tab23 : rtab .any (callOps "nodes.go:692" 123 24 200 100 107 ⟨#[66, 116, 114, 101, 101, 82, 101, 118, 101, 114, 115, 101, 77, 97, 112]⟩).toArray = callT := by kernel_rfl
theorem stats_tab24 : rtab .any (callOps "nodes.go:693" 123 25 208 101 108 ⟨#[66, 116, 114, 101, 101, 82, 101, 102, 67, 111, 117, 110, 116]⟩).toArray = callT := by kernel_rfl
theorem stats_tab25 : rtab .any (callOps "nodes.go:694" 123 26 216 102 109 ⟨#[66, 116, 114, 101, 101, 82, 101, 118, 101, 114, 115, 101, 77, 97, 112, 77, 101, 109]⟩).toArray = callT := by kernel_rfl
theorem stats_tab26 : rtab .any (callOps "nodes.go:695" 123 27 224 103 110 ⟨#[66, 116, 114, 101, 101, 82, 99, 98, 97, 103]⟩).toArray = callT := by kernel_rfl
theorem stats_tab27 : rtab .any (callOps "nodes.go:696" 123 28 232 104 111 ⟨#[66, 116, 114, 101, 101, 82, 116, 82, 101, 118, 101, 114, 115, 101, 77, 97, 112]⟩).toArray = callT := by kernel_rfl
theorem stats_tab28 : rtab .any (callOps "nodes.go:697" 123 29 240 105 112 ⟨#[66, 116, 114, 101, 101, 82, 116, 82, 101, 118, 101, 114, 115, 101, 77, 97, 112, 77, 101, 109]⟩).toArray = callT := by kernel_rfl
theorem stats_tab29 : rtab .any (callOps "nodes.go:698" 123 30 248 106 113 ⟨#[66, 116, 114, 101, 101, 82, 116, 82, 101, 102, 67, 111, 117, 110, 116]⟩).toArray = callT := by kernel_rfl
theorem stats_tab30 : rtab .any (callOps "nodes.go:699" 123 31 256 107 115 ⟨#[90, 111, 110, 101, 100]⟩).toArray = callT := by kernel_rfl
theorem stats_tab31 : rtab .any (callOps "nodes.go:700" 123 32 264 108 117 ⟨#[77, 101, 116, 97, 70, 105, 108, 101]⟩).toArray = callT := by kernel_rfl
theorem stats_tab32 : rtab .any (callOps "nodes.go:701" 123 33 272 109 119 ⟨#[68, 101, 102, 101, 114, 82, 101, 108, 111, 103]⟩).toArray = callT := by kernel_rfl
theorem stats_tab33 : rtab .any (callOps "nodes.go:702" 123 34 280 110 121 ⟨#[71, 99, 88, 112, 99]⟩).toArray = callT := by kernel_rfl

theorem flat_at : ∀ (L : List (List Value)) (i j : Nat) (c : List Value) (u : Value), L[i]? = some c → c[j]? = some u → L.flatten[((L.take i).map List.length).sum + j]? = some u
  | [], i, j, c, u, h, _ => by simp at h
  | a :: L, 0, j, c, u, h, hj => by
    obtain rfl : a = c := by simpa using h
    have hlt := (List.getElem?_eq_some_iff.1 hj).1
    simp only [List.take_zero, List.map_nil, List.sum_nil, Nat.zero_add, List.flatten_cons]
    rw [List.getElem?_append_left hlt]; exact hj
  | a :: L, i + 1, j, c, u, h, hj => by
    have ih := flat_at L i j c u (by simpa using h) hj
    simp only [List.take_succ_cons, List.map_cons, List.sum_cons, List.flatten_cons]
    rw [List.getElem?_append_right (by omega), show a.length + ((L.take i).map List.length).sum + j - a.length = ((L.take i).map List.length).sum + j by omega]
    exact ih
/-- The argument's cells: the name, then each line's numbers. -/
def statArgs (nm : ByteArray) (M : Nat → List Int) : Array Value := (.string nm :: ((statLns M).map (fun x => x.cs)).flatten).toArray
/-- As many numbers as each line has, of 32 bits but for those of bytes. -/
def StatOk (M : Nat → List Int) : Prop := (∀ i, i < 34 → (M i).length = statLens.getD i 0) ∧ ∀ i, i < 34 → i ∉ [13, 32, 33] → ∀ n ∈ M i, 0 ≤ n ∧ n < 4294967296
theorem stat_lens (M : Nat → List Int) (hM : StatOk M) : ((statLns M).map (fun x => x.cs)).map List.length = statLens := by
  have h := hM.1
  simp only [statLns, List.map_cons, List.map_nil, List.length_map]
  rw [h 0 (by decide), h 1 (by decide), h 2 (by decide), h 3 (by decide), h 4 (by decide), h 5 (by decide), h 6 (by decide), h 7 (by decide), h 8 (by decide), h 9 (by decide), h 10 (by decide), h 11 (by decide), h 12 (by decide), h 13 (by decide), h 14 (by decide), h 15 (by decide), h 16 (by decide), h 17 (by decide), h 18 (by decide), h 19 (by decide), h 20 (by decide), h 21 (by decide), h 22 (by decide), h 23 (by decide), h 24 (by decide), h 25 (by decide), h 26 (by decide), h 27 (by decide), h 28 (by decide), h 29 (by decide), h 30 (by decide), h 31 (by decide), h 32 (by decide), h 33 (by decide)]
  rfl
theorem stat_at (nm : ByteArray) (M : Nat → List Int) (hM : StatOk M) (i : Nat) (c : List Value) (hc : ((statLns M).map (fun x => x.cs))[i]? = some c) (off : Nat) (ho : (statLens.take i).sum + 1 = off) : ∀ j u, c[j]? = some u → (statArgs nm M)[off + j]? = some u := by
  intro j u hj
  have h := flat_at _ i j c u hc hj
  rw [← List.map_take.symm, stat_lens M hM] at h
  subst ho
  simp only [statArgs, List.getElem?_toArray]
  rw [show (statLens.take i).sum + 1 + j = (statLens.take i).sum + j + 1 by omega, List.getElem?_cons_succ]
  exact h
theorem lnok0 (nm : ByteArray) (M : Nat → List Int) (hM : StatOk M) : LnOk 123 (statArgs nm M) 1 16 ⟨ "nodes.go:669", 78, 68, ⟨#[69, 120, 116, 101, 110, 116, 65, 108, 108, 111, 99, 97, 116, 105, 111, 110]⟩, (M 0).map (Value.int .u32), (rf78.zip (M 0)).map (fun p => uintM p.1.1 p.2)⟩ :=
  have hl : (M 0).length = 4 := hM.1 0 (by decide)
  ⟨stats_tab0, _, _, 1, _, Tryz.f78, Tryz.underlying123, rfl, rfl, rfl, Tryz.underlying68, rfl, (by simp only [List.length_map, hl]; kernel_rfl), (by simp only [List.length_map, hl]; decide), stat_at nm M hM 0 _ rfl 1 (by decide), Tryz.func78, by kernel_rfl, rfl, fun w1 => rec78 ⟨#[69, 120, 116, 101, 110, 116, 65, 108, 108, 111, 99, 97, 116, 105, 111, 110]⟩ (M 0) hl (hM.2 0 (by decide) (by decide)) w1⟩
theorem lnok1 (nm : ByteArray) (M : Nat → List Int) (hM : StatOk M) : LnOk 123 (statArgs nm M) 2 24 ⟨ "nodes.go:670", 79, 70, ⟨#[65, 108, 108, 111, 99, 97, 116, 105, 111, 110, 66, 84, 114, 101, 101]⟩, (M 1).map (Value.int .u32), (rf79.zip (M 1)).map (fun p => uintM p.1.1 p.2)⟩ :=
  have hl : (M 1).length = 4 := hM.1 1 (by decide)
  ⟨stats_tab1, _, _, 5, _, Tryz.f79, Tryz.underlying123, rfl, rfl, rfl, Tryz.underlying70, rfl, (by simp only [List.length_map, hl]; kernel_rfl), (by simp only [List.length_map, hl]; decide), stat_at nm M hM 1 _ rfl 5 (by decide), Tryz.func79, by kernel_rfl, rfl, fun w1 => rec79 ⟨#[65, 108, 108, 111, 99, 97, 116, 105, 111, 110, 66, 84, 114, 101, 101]⟩ (M 1) hl (hM.2 1 (by decide) (by decide)) w1⟩
theorem lnok2 (nm : ByteArray) (M : Nat → List Int) (hM : StatOk M) : LnOk 123 (statArgs nm M) 3 32 ⟨ "nodes.go:671", 80, 72, ⟨#[66, 108, 111, 99, 107, 77, 97, 112, 112, 105, 110, 103]⟩, (M 2).map (Value.int .u32), (rf80.zip (M 2)).map (fun p => uintM p.1.1 p.2)⟩ :=
  have hl : (M 2).length = 7 := hM.1 2 (by decide)
  ⟨stats_tab2, _, _, 9, _, Tryz.f80, Tryz.underlying123, rfl, rfl, rfl, Tryz.underlying72, rfl, (by simp only [List.length_map, hl]; kernel_rfl), (by simp only [List.length_map, hl]; decide), stat_at nm M hM 2 _ rfl 9 (by decide), Tryz.func80, by kernel_rfl, rfl, fun w1 => rec80 ⟨#[66, 108, 111, 99, 107, 77, 97, 112, 112, 105, 110, 103]⟩ (M 2) hl (hM.2 2 (by decide) (by decide)) w1⟩
theorem lnok3 (nm : ByteArray) (M : Nat → List Int) (hM : StatOk M) : LnOk 123 (statArgs nm M) 4 40 ⟨ "nodes.go:672", 79, 70, ⟨#[66, 108, 111, 99, 107, 77, 97, 112, 66, 84, 114, 101, 101]⟩, (M 3).map (Value.int .u32), (rf79.zip (M 3)).map (fun p => uintM p.1.1 p.2)⟩ :=
  have hl : (M 3).length = 4 := hM.1 3 (by decide)
  ⟨stats_tab3, _, _, 16, _, Tryz.f79, Tryz.underlying123, rfl, rfl, rfl, Tryz.underlying70, rfl, (by simp only [List.length_map, hl]; kernel_rfl), (by simp only [List.length_map, hl]; decide), stat_at nm M hM 3 _ rfl 16 (by decide), Tryz.func79, by kernel_rfl, rfl, fun w1 => rec79 ⟨#[66, 108, 111, 99, 107, 77, 97, 112, 66, 84, 114, 101, 101]⟩ (M 3) hl (hM.2 3 (by decide) (by decide)) w1⟩
theorem lnok4 (nm : ByteArray) (M : Nat → List Int) (hM : StatOk M) : LnOk 123 (statArgs nm M) 5 48 ⟨ "nodes.go:673", 81, 74, ⟨#[68, 105, 114, 101, 99, 116, 111, 114, 121, 79, 112, 101, 114, 97, 116, 105, 111, 110]⟩, (M 4).map (Value.int .u32), (rf81.zip (M 4)).map (fun p => uintM p.1.1 p.2)⟩ :=
  have hl : (M 4).length = 4 := hM.1 4 (by decide)
  ⟨stats_tab4, _, _, 20, _, Tryz.f81, Tryz.underlying123, rfl, rfl, rfl, Tryz.underlying74, rfl, (by simp only [List.length_map, hl]; kernel_rfl), (by simp only [List.length_map, hl]; decide), stat_at nm M hM 4 _ rfl 20 (by decide), Tryz.func81, by kernel_rfl, rfl, fun w1 => rec81 ⟨#[68, 105, 114, 101, 99, 116, 111, 114, 121, 79, 112, 101, 114, 97, 116, 105, 111, 110]⟩ (M 4) hl (hM.2 4 (by decide) (by decide)) w1⟩
theorem lnok5 (nm : ByteArray) (M : Nat → List Int) (hM : StatOk M) : LnOk 123 (statArgs nm M) 6 56 ⟨ "nodes.go:674", 82, 76, ⟨#[84, 114, 97, 110, 115, 97, 99, 116, 105, 111, 110]⟩, (M 5).map (Value.int .u32), (rf82.zip (M 5)).map (fun p => uintM p.1.1 p.2)⟩ :=
  have hl : (M 5).length = 3 := hM.1 5 (by decide)
  ⟨stats_tab5, _, _, 24, _, Tryz.f82, Tryz.underlying123, rfl, rfl, rfl, Tryz.underlying76, rfl, (by simp only [List.length_map, hl]; kernel_rfl), (by simp only [List.length_map, hl]; decide), stat_at nm M hM 5 _ rfl 24 (by decide), Tryz.func82, by kernel_rfl, rfl, fun w1 => rec82 ⟨#[84, 114, 97, 110, 115, 97, 99, 116, 105, 111, 110]⟩ (M 5) hl (hM.2 5 (by decide) (by decide)) w1⟩
theorem lnok6 (nm : ByteArray) (M : Nat → List Int) (hM : StatOk M) : LnOk 123 (statArgs nm M) 7 64 ⟨ "nodes.go:675", 83, 78, ⟨#[73, 110, 111, 100, 101, 79, 112, 101, 114, 97, 116, 105, 111, 110]⟩, (M 6).map (Value.int .u32), (rf83.zip (M 6)).map (fun p => uintM p.1.1 p.2)⟩ :=
  have hl : (M 6).length = 7 := hM.1 6 (by decide)
  ⟨stats_tab6, _, _, 27, _, Tryz.f83, Tryz.underlying123, rfl, rfl, rfl, Tryz.underlying78, rfl, (by simp only [List.length_map, hl]; kernel_rfl), (by simp only [List.length_map, hl]; decide), stat_at nm M hM 6 _ rfl 27 (by decide), Tryz.func83, by kernel_rfl, rfl, fun w1 => rec83 ⟨#[73, 110, 111, 100, 101, 79, 112, 101, 114, 97, 116, 105, 111, 110]⟩ (M 6) hl (hM.2 6 (by decide) (by decide)) w1⟩
theorem lnok7 (nm : ByteArray) (M : Nat → List Int) (hM : StatOk M) : LnOk 123 (statArgs nm M) 8 72 ⟨ "nodes.go:676", 84, 80, ⟨#[76, 111, 103, 79, 112, 101, 114, 97, 116, 105, 111, 110]⟩, (M 7).map (Value.int .u32), (rf84.zip (M 7)).map (fun p => uintM p.1.1 p.2)⟩ :=
  have hl : (M 7).length = 5 := hM.1 7 (by decide)
  ⟨stats_tab7, _, _, 34, _, Tryz.f84, Tryz.underlying123, rfl, rfl, rfl, Tryz.underlying80, rfl, (by simp only [List.length_map, hl]; kernel_rfl), (by simp only [List.length_map, hl]; decide), stat_at nm M hM 7 _ rfl 34 (by decide), Tryz.func84, by kernel_rfl, rfl, fun w1 => rec84 ⟨#[76, 111, 103, 79, 112, 101, 114, 97, 116, 105, 111, 110]⟩ (M 7) hl (hM.2 7 (by decide) (by decide)) w1⟩
theorem lnok8 (nm : ByteArray) (M : Nat → List Int) (hM : StatOk M) : LnOk 123 (statArgs nm M) 9 80 ⟨ "nodes.go:677", 85, 82, ⟨#[82, 101, 97, 100, 87, 114, 105, 116, 101]⟩, (M 8).map (Value.int .u32), (rf85.zip (M 8)).map (fun p => uintM p.1.1 p.2)⟩ :=
  have hl : (M 8).length = 2 := hM.1 8 (by decide)
  ⟨stats_tab8, _, _, 39, _, Tryz.f85, Tryz.underlying123, rfl, rfl, rfl, Tryz.underlying82, rfl, (by simp only [List.length_map, hl]; kernel_rfl), (by simp only [List.length_map, hl]; decide), stat_at nm M hM 8 _ rfl 39 (by decide), Tryz.func85, by kernel_rfl, rfl, fun w1 => rec85 ⟨#[82, 101, 97, 100, 87, 114, 105, 116, 101]⟩ (M 8) hl (hM.2 8 (by decide) (by decide)) w1⟩
theorem lnok9 (nm : ByteArray) (M : Nat → List Int) (hM : StatOk M) : LnOk 123 (statArgs nm M) 10 88 ⟨ "nodes.go:678", 86, 84, ⟨#[65, 116, 116, 114, 105, 98, 117, 116, 101, 79, 112, 101, 114, 97, 116, 105, 111, 110]⟩, (M 9).map (Value.int .u32), (rf86.zip (M 9)).map (fun p => uintM p.1.1 p.2)⟩ :=
  have hl : (M 9).length = 4 := hM.1 9 (by decide)
  ⟨stats_tab9, _, _, 41, _, Tryz.f86, Tryz.underlying123, rfl, rfl, rfl, Tryz.underlying84, rfl, (by simp only [List.length_map, hl]; kernel_rfl), (by simp only [List.length_map, hl]; decide), stat_at nm M hM 9 _ rfl 41 (by decide), Tryz.func86, by kernel_rfl, rfl, fun w1 => rec86 ⟨#[65, 116, 116, 114, 105, 98, 117, 116, 101, 79, 112, 101, 114, 97, 116, 105, 111, 110]⟩ (M 9) hl (hM.2 9 (by decide) (by decide)) w1⟩
theorem lnok10 (nm : ByteArray) (M : Nat → List Int) (hM : StatOk M) : LnOk 123 (statArgs nm M) 11 96 ⟨ "nodes.go:679", 87, 86, ⟨#[73, 110, 111, 100, 101, 67, 108, 117, 115, 116, 101, 114, 105, 110, 103]⟩, (M 10).map (Value.int .u32), (rf87.zip (M 10)).map (fun p => uintM p.1.1 p.2)⟩ :=
  have hl : (M 10).length = 3 := hM.1 10 (by decide)
  ⟨stats_tab10, _, _, 45, _, Tryz.f87, Tryz.underlying123, rfl, rfl, rfl, Tryz.underlying86, rfl, (by simp only [List.length_map, hl]; kernel_rfl), (by simp only [List.length_map, hl]; decide), stat_at nm M hM 10 _ rfl 45 (by decide), Tryz.func87, by kernel_rfl, rfl, fun w1 => rec87 ⟨#[73, 110, 111, 100, 101, 67, 108, 117, 115, 116, 101, 114, 105, 110, 103]⟩ (M 10) hl (hM.2 10 (by decide) (by decide)) w1⟩
theorem lnok11 (nm : ByteArray) (M : Nat → List Int) (hM : StatOk M) : LnOk 123 (statArgs nm M) 12 104 ⟨ "nodes.go:680", 88, 88, ⟨#[86, 110, 111, 100, 101]⟩, (M 11).map (Value.int .u32), (rf88.zip (M 11)).map (fun p => uintM p.1.1 p.2)⟩ :=
  have hl : (M 11).length = 8 := hM.1 11 (by decide)
  ⟨stats_tab11, _, _, 48, _, Tryz.f88, Tryz.underlying123, rfl, rfl, rfl, Tryz.underlying88, rfl, (by simp only [List.length_map, hl]; kernel_rfl), (by simp only [List.length_map, hl]; decide), stat_at nm M hM 11 _ rfl 48 (by decide), Tryz.func88, by kernel_rfl, rfl, fun w1 => rec88 ⟨#[86, 110, 111, 100, 101]⟩ (M 11) hl (hM.2 11 (by decide) (by decide)) w1⟩
theorem lnok12 (nm : ByteArray) (M : Nat → List Int) (hM : StatOk M) : LnOk 123 (statArgs nm M) 13 112 ⟨ "nodes.go:681", 89, 90, ⟨#[66, 117, 102, 102, 101, 114]⟩, (M 12).map (Value.int .u32), (rf89.zip (M 12)).map (fun p => uintM p.1.1 p.2)⟩ :=
  have hl : (M 12).length = 9 := hM.1 12 (by decide)
  ⟨stats_tab12, _, _, 56, _, Tryz.f89, Tryz.underlying123, rfl, rfl, rfl, Tryz.underlying90, rfl, (by simp only [List.length_map, hl]; kernel_rfl), (by simp only [List.length_map, hl]; decide), stat_at nm M hM 12 _ rfl 56 (by decide), Tryz.func89, by kernel_rfl, rfl, fun w1 => rec89 ⟨#[66, 117, 102, 102, 101, 114]⟩ (M 12) hl (hM.2 12 (by decide) (by decide)) w1⟩
theorem lnok13 (nm : ByteArray) (M : Nat → List Int) (hM : StatOk M) : LnOk 123 (statArgs nm M) 14 120 ⟨ "nodes.go:682", 90, 92, ⟨#[69, 120, 116, 101, 110, 100, 101, 100, 80, 114, 101, 99, 105, 115, 105, 111, 110]⟩, (M 13).map (Value.int .u64), (rf90.zip (M 13)).map (fun p => uintM p.1.1 p.2)⟩ :=
  have hl : (M 13).length = 3 := hM.1 13 (by decide)
  ⟨stats_tab13, _, _, 65, _, Tryz.f90, Tryz.underlying123, rfl, rfl, rfl, Tryz.underlying92, rfl, (by simp only [List.length_map, hl]; kernel_rfl), (by simp only [List.length_map, hl]; decide), stat_at nm M hM 13 _ rfl 65 (by decide), Tryz.func90, by kernel_rfl, rfl, fun w1 => rec90 ⟨#[69, 120, 116, 101, 110, 100, 101, 100, 80, 114, 101, 99, 105, 115, 105, 111, 110]⟩ (M 13) hl w1⟩
theorem lnok14 (nm : ByteArray) (M : Nat → List Int) (hM : StatOk M) : LnOk 123 (statArgs nm M) 15 128 ⟨ "nodes.go:683", 91, 94, ⟨#[88, 115, 116, 114, 97, 116]⟩, (M 14).map (Value.int .u32), (rf91.zip (M 14)).map (fun p => uintM p.1.1 p.2)⟩ :=
  have hl : (M 14).length = 2 := hM.1 14 (by decide)
  ⟨stats_tab14, _, _, 68, _, Tryz.f91, Tryz.underlying123, rfl, rfl, rfl, Tryz.underlying94, rfl, (by simp only [List.length_map, hl]; kernel_rfl), (by simp only [List.length_map, hl]; decide), stat_at nm M hM 14 _ rfl 68 (by decide), Tryz.func91, by kernel_rfl, rfl, fun w1 => rec91 ⟨#[88, 115, 116, 114, 97, 116]⟩ (M 14) hl (hM.2 14 (by decide) (by decide)) w1⟩
theorem lnok15 (nm : ByteArray) (M : Nat → List Int) (hM : StatOk M) : LnOk 123 (statArgs nm M) 16 136 ⟨ "nodes.go:684", 92, 96, ⟨#[80, 117, 115, 104, 65, 105, 108]⟩, (M 15).map (Value.int .u32), (rf92.zip (M 15)).map (fun p => uintM p.1.1 p.2)⟩ :=
  have hl : (M 15).length = 10 := hM.1 15 (by decide)
  ⟨stats_tab15, _, _, 70, _, Tryz.f92, Tryz.underlying123, rfl, rfl, rfl, Tryz.underlying96, rfl, (by simp only [List.length_map, hl]; kernel_rfl), (by simp only [List.length_map, hl]; decide), stat_at nm M hM 15 _ rfl 70 (by decide), Tryz.func92, by kernel_rfl, rfl, fun w1 => rec92 ⟨#[80, 117, 115, 104, 65, 105, 108]⟩ (M 15) hl (hM.2 15 (by decide) (by decide)) w1⟩
theorem lnok16 (nm : ByteArray) (M : Nat → List Int) (hM : StatOk M) : LnOk 123 (statArgs nm M) 17 144 ⟨ "nodes.go:685", 93, 98, ⟨#[68, 101, 98, 117, 103]⟩, (M 16).map (Value.int .u32), (rf93.zip (M 16)).map (fun p => uintM p.1.1 p.2)⟩ :=
  have hl : (M 16).length = 1 := hM.1 16 (by decide)
  ⟨stats_tab16, _, _, 80, _, Tryz.f93, Tryz.underlying123, rfl, rfl, rfl, Tryz.underlying98, rfl, (by simp only [List.length_map, hl]; kernel_rfl), (by simp only [List.length_map, hl]; decide), stat_at nm M hM 16 _ rfl 80 (by decide), Tryz.func93, by kernel_rfl, rfl, fun w1 => rec93 ⟨#[68, 101, 98, 117, 103]⟩ (M 16) hl (hM.2 16 (by decide) (by decide)) w1⟩
theorem lnok17 (nm : ByteArray) (M : Nat → List Int) (hM : StatOk M) : LnOk 123 (statArgs nm M) 18 152 ⟨ "nodes.go:686", 94, 100, ⟨#[81, 117, 111, 116, 97, 77, 97, 110, 97, 103, 101, 114]⟩, (M 17).map (Value.int .u32), (rf94.zip (M 17)).map (fun p => uintM p.1.1 p.2)⟩ :=
  have hl : (M 17).length = 9 := hM.1 17 (by decide)
  ⟨stats_tab17, _, _, 81, _, Tryz.f94, Tryz.underlying123, rfl, rfl, rfl, Tryz.underlying100, rfl, (by simp only [List.length_map, hl]; kernel_rfl), (by simp only [List.length_map, hl]; decide), stat_at nm M hM 17 _ rfl 81 (by decide), Tryz.func94, by kernel_rfl, rfl, fun w1 => rec94 ⟨#[81, 117, 111, 116, 97, 77, 97, 110, 97, 103, 101, 114]⟩ (M 17) hl (hM.2 17 (by decide) (by decide)) w1⟩
theorem lnok18 (nm : ByteArray) (M : Nat → List Int) (hM : StatOk M) : LnOk 123 (statArgs nm M) 19 160 ⟨ "nodes.go:687", 95, 102, ⟨#[66, 116, 114, 101, 101, 65, 108, 108, 111, 99, 66, 108, 111, 99, 107, 115, 50]⟩, (M 18).map (Value.int .u32), (rf95.zip (M 18)).map (fun p => uintM p.1.1 p.2)⟩ :=
  have hl : (M 18).length = 15 := hM.1 18 (by decide)
  ⟨stats_tab18, _, _, 90, _, Tryz.f95, Tryz.underlying123, rfl, rfl, rfl, Tryz.underlying102, rfl, (by simp only [List.length_map, hl]; kernel_rfl), (by simp only [List.length_map, hl]; decide), stat_at nm M hM 18 _ rfl 90 (by decide), Tryz.func95, by kernel_rfl, rfl, fun w1 => rec95 ⟨#[66, 116, 114, 101, 101, 65, 108, 108, 111, 99, 66, 108, 111, 99, 107, 115, 50]⟩ (M 18) hl (hM.2 18 (by decide) (by decide)) w1⟩
theorem lnok19 (nm : ByteArray) (M : Nat → List Int) (hM : StatOk M) : LnOk 123 (statArgs nm M) 20 168 ⟨ "nodes.go:688", 96, 103, ⟨#[66, 116, 114, 101, 101, 65, 108, 108, 111, 99, 67, 111, 110, 116, 105, 103, 50]⟩, (M 19).map (Value.int .u32), (rf96.zip (M 19)).map (fun p => uintM p.1.1 p.2)⟩ :=
  have hl : (M 19).length = 15 := hM.1 19 (by decide)
  ⟨stats_tab19, _, _, 105, _, Tryz.f96, Tryz.underlying123, rfl, rfl, rfl, Tryz.underlying103, rfl, (by simp only [List.length_map, hl]; kernel_rfl), (by simp only [List.length_map, hl]; decide), stat_at nm M hM 19 _ rfl 105 (by decide), Tryz.func96, by kernel_rfl, rfl, fun w1 => rec96 ⟨#[66, 116, 114, 101, 101, 65, 108, 108, 111, 99, 67, 111, 110, 116, 105, 103, 50]⟩ (M 19) hl (hM.2 19 (by decide) (by decide)) w1⟩
theorem lnok20 (nm : ByteArray) (M : Nat → List Int) (hM : StatOk M) : LnOk 123 (statArgs nm M) 21 176 ⟨ "nodes.go:689", 97, 104, ⟨#[66, 116, 114, 101, 101, 66, 108, 111, 99, 107, 77, 97, 112, 50]⟩, (M 20).map (Value.int .u32), (rf97.zip (M 20)).map (fun p => uintM p.1.1 p.2)⟩ :=
  have hl : (M 20).length = 15 := hM.1 20 (by decide)
  ⟨stats_tab20, _, _, 120, _, Tryz.f97, Tryz.underlying123, rfl, rfl, rfl, Tryz.underlying104, rfl, (by simp only [List.length_map, hl]; kernel_rfl), (by simp only [List.length_map, hl]; decide), stat_at nm M hM 20 _ rfl 120 (by decide), Tryz.func97, by kernel_rfl, rfl, fun w1 => rec97 ⟨#[66, 116, 114, 101, 101, 66, 108, 111, 99, 107, 77, 97, 112, 50]⟩ (M 20) hl (hM.2 20 (by decide) (by decide)) w1⟩
theorem lnok21 (nm : ByteArray) (M : Nat → List Int) (hM : StatOk M) : LnOk 123 (statArgs nm M) 22 184 ⟨ "nodes.go:690", 98, 105, ⟨#[66, 116, 114, 101, 101, 73, 110, 111, 100, 101, 50]⟩, (M 21).map (Value.int .u32), (rf98.zip (M 21)).map (fun p => uintM p.1.1 p.2)⟩ :=
  have hl : (M 21).length = 15 := hM.1 21 (by decide)
  ⟨stats_tab21, _, _, 135, _, Tryz.f98, Tryz.underlying123, rfl, rfl, rfl, Tryz.underlying105, rfl, (by simp only [List.length_map, hl]; kernel_rfl), (by simp only [List.length_map, hl]; decide), stat_at nm M hM 21 _ rfl 135 (by decide), Tryz.func98, by kernel_rfl, rfl, fun w1 => rec98 ⟨#[66, 116, 114, 101, 101, 73, 110, 111, 100, 101, 50]⟩ (M 21) hl (hM.2 21 (by decide) (by decide)) w1⟩
theorem lnok22 (nm : ByteArray) (M : Nat → List Int) (hM : StatOk M) : LnOk 123 (statArgs nm M) 23 192 ⟨ "nodes.go:691", 99, 106, ⟨#[66, 116, 114, 101, 101, 70, 114, 101, 101, 73, 110, 111, 100, 101, 50]⟩, (M 22).map (Value.int .u32), (rf99.zip (M 22)).map (fun p => uintM p.1.1 p.2)⟩ :=
  have hl : (M 22).length = 15 := hM.1 22 (by decide)
  ⟨stats_tab22, _, _, 150, _, Tryz.f99, Tryz.underlying123, rfl, rfl, rfl, Tryz.underlying106, rfl, (by simp only [List.length_map, hl]; kernel_rfl), (by simp only [List.length_map, hl]; decide), stat_at nm M hM 22 _ rfl 150 (by decide), Tryz.func99, by kernel_rfl, rfl, fun w1 => rec99 ⟨#[66, 116, 114, 101, 101, 70, 114, 101, 101, 73, 110, 111, 100, 101, 50]⟩ (M 22) hl (hM.2 22 (by decide) (by decide)) w1⟩
theorem lnok23 (nm : ByteArray) (M : Nat → List Int) (hM : StatOk M) : LnOk 123 (statArgs nm M) 24 200 ⟨ "nodes.go:692", 100, 107, ⟨#[66, 116, 114, 101, 101, 82, 101, 118, 101, 114, 115, 101, 77, 97, 112]⟩, (M 23).map (Value.int .u32), (rf100.zip (M 23)).map (fun p => uintM p.1.1 p.2)⟩ :=
  have hl : (M 23).length = 15 := hM.1 23 (by decide)
  ⟨stats_tab23, _, _, 165, _, Tryz.f100, Tryz.underlying123, rfl, rfl, rfl, Tryz.underlying107, rfl, (by simp only [List.length_map, hl]; kernel_rfl), (by simp only [List.length_map, hl]; decide), stat_at nm M hM 23 _ rfl 165 (by decide), Tryz.func100, by kernel_rfl, rfl, fun w1 => rec100 ⟨#[66, 116, 114, 101, 101, 82, 101, 118, 101, 114, 115, 101, 77, 97, 112]⟩ (M 23) hl (hM.2 23 (by decide) (by decide)) w1⟩
theorem lnok24 (nm : ByteArray) (M : Nat → List Int) (hM : StatOk M) : LnOk 123 (statArgs nm M) 25 208 ⟨ "nodes.go:693", 101, 108, ⟨#[66, 116, 114, 101, 101, 82, 101, 102, 67, 111, 117, 110, 116]⟩, (M 24).map (Value.int .u32), (rf101.zip (M 24)).map (fun p => uintM p.1.1 p.2)⟩ :=
  have hl : (M 24).length = 15 := hM.1 24 (by decide)
  ⟨stats_tab24, _, _, 180, _, Tryz.f101, Tryz.underlying123, rfl, rfl, rfl, Tryz.underlying108, rfl, (by simp only [List.length_map, hl]; kernel_rfl), (by simp only [List.length_map, hl]; decide), stat_at nm M hM 24 _ rfl 180 (by decide), Tryz.func101, by kernel_rfl, rfl, fun w1 => rec101 ⟨#[66, 116, 114, 101, 101, 82, 101, 102, 67, 111, 117, 110, 116]⟩ (M 24) hl (hM.2 24 (by decide) (by decide)) w1⟩
theorem lnok25 (nm : ByteArray) (M : Nat → List Int) (hM : StatOk M) : LnOk 123 (statArgs nm M) 26 216 ⟨ "nodes.go:694", 102, 109, ⟨#[66, 116, 114, 101, 101, 82, 101, 118, 101, 114, 115, 101, 77, 97, 112, 77, 101, 109]⟩, (M 25).map (Value.int .u32), (rf102.zip (M 25)).map (fun p => uintM p.1.1 p.2)⟩ :=
  have hl : (M 25).length = 15 := hM.1 25 (by decide)
  ⟨stats_tab25, _, _, 195, _, Tryz.f102, Tryz.underlying123, rfl, rfl, rfl, Tryz.underlying109, rfl, (by simp only [List.length_map, hl]; kernel_rfl), (by simp only [List.length_map, hl]; decide), stat_at nm M hM 25 _ rfl 195 (by decide), Tryz.func102, by kernel_rfl, rfl, fun w1 => rec102 ⟨#[66, 116, 114, 101, 101, 82, 101, 118, 101, 114, 115, 101, 77, 97, 112, 77, 101, 109]⟩ (M 25) hl (hM.2 25 (by decide) (by decide)) w1⟩
theorem lnok26 (nm : ByteArray) (M : Nat → List Int) (hM : StatOk M) : LnOk 123 (statArgs nm M) 27 224 ⟨ "nodes.go:695", 103, 110, ⟨#[66, 116, 114, 101, 101, 82, 99, 98, 97, 103]⟩, (M 26).map (Value.int .u32), (rf103.zip (M 26)).map (fun p => uintM p.1.1 p.2)⟩ :=
  have hl : (M 26).length = 15 := hM.1 26 (by decide)
  ⟨stats_tab26, _, _, 210, _, Tryz.f103, Tryz.underlying123, rfl, rfl, rfl, Tryz.underlying110, rfl, (by simp only [List.length_map, hl]; kernel_rfl), (by simp only [List.length_map, hl]; decide), stat_at nm M hM 26 _ rfl 210 (by decide), Tryz.func103, by kernel_rfl, rfl, fun w1 => rec103 ⟨#[66, 116, 114, 101, 101, 82, 99, 98, 97, 103]⟩ (M 26) hl (hM.2 26 (by decide) (by decide)) w1⟩
theorem lnok27 (nm : ByteArray) (M : Nat → List Int) (hM : StatOk M) : LnOk 123 (statArgs nm M) 28 232 ⟨ "nodes.go:696", 104, 111, ⟨#[66, 116, 114, 101, 101, 82, 116, 82, 101, 118, 101, 114, 115, 101, 77, 97, 112]⟩, (M 27).map (Value.int .u32), (rf104.zip (M 27)).map (fun p => uintM p.1.1 p.2)⟩ :=
  have hl : (M 27).length = 15 := hM.1 27 (by decide)
  ⟨stats_tab27, _, _, 225, _, Tryz.f104, Tryz.underlying123, rfl, rfl, rfl, Tryz.underlying111, rfl, (by simp only [List.length_map, hl]; kernel_rfl), (by simp only [List.length_map, hl]; decide), stat_at nm M hM 27 _ rfl 225 (by decide), Tryz.func104, by kernel_rfl, rfl, fun w1 => rec104 ⟨#[66, 116, 114, 101, 101, 82, 116, 82, 101, 118, 101, 114, 115, 101, 77, 97, 112]⟩ (M 27) hl (hM.2 27 (by decide) (by decide)) w1⟩
theorem lnok28 (nm : ByteArray) (M : Nat → List Int) (hM : StatOk M) : LnOk 123 (statArgs nm M) 29 240 ⟨ "nodes.go:697", 105, 112, ⟨#[66, 116, 114, 101, 101, 82, 116, 82, 101, 118, 101, 114, 115, 101, 77, 97, 112, 77, 101, 109]⟩, (M 28).map (Value.int .u32), (rf105.zip (M 28)).map (fun p => uintM p.1.1 p.2)⟩ :=
  have hl : (M 28).length = 15 := hM.1 28 (by decide)
  ⟨stats_tab28, _, _, 240, _, Tryz.f105, Tryz.underlying123, rfl, rfl, rfl, Tryz.underlying112, rfl, (by simp only [List.length_map, hl]; kernel_rfl), (by simp only [List.length_map, hl]; decide), stat_at nm M hM 28 _ rfl 240 (by decide), Tryz.func105, by kernel_rfl, rfl, fun w1 => rec105 ⟨#[66, 116, 114, 101, 101, 82, 116, 82, 101, 118, 101, 114, 115, 101, 77, 97, 112, 77, 101, 109]⟩ (M 28) hl (hM.2 28 (by decide) (by decide)) w1⟩
theorem lnok29 (nm : ByteArray) (M : Nat → List Int) (hM : StatOk M) : LnOk 123 (statArgs nm M) 30 248 ⟨ "nodes.go:698", 106, 113, ⟨#[66, 116, 114, 101, 101, 82, 116, 82, 101, 102, 67, 111, 117, 110, 116]⟩, (M 29).map (Value.int .u32), (rf106.zip (M 29)).map (fun p => uintM p.1.1 p.2)⟩ :=
  have hl : (M 29).length = 15 := hM.1 29 (by decide)
  ⟨stats_tab29, _, _, 255, _, Tryz.f106, Tryz.underlying123, rfl, rfl, rfl, Tryz.underlying113, rfl, (by simp only [List.length_map, hl]; kernel_rfl), (by simp only [List.length_map, hl]; decide), stat_at nm M hM 29 _ rfl 255 (by decide), Tryz.func106, by kernel_rfl, rfl, fun w1 => rec106 ⟨#[66, 116, 114, 101, 101, 82, 116, 82, 101, 102, 67, 111, 117, 110, 116]⟩ (M 29) hl (hM.2 29 (by decide) (by decide)) w1⟩
theorem lnok30 (nm : ByteArray) (M : Nat → List Int) (hM : StatOk M) : LnOk 123 (statArgs nm M) 31 256 ⟨ "nodes.go:699", 107, 115, ⟨#[90, 111, 110, 101, 100]⟩, (M 30).map (Value.int .u32), (rf107.zip (M 30)).map (fun p => uintM p.1.1 p.2)⟩ :=
  have hl : (M 30).length = 3 := hM.1 30 (by decide)
  ⟨stats_tab30, _, _, 270, _, Tryz.f107, Tryz.underlying123, rfl, rfl, rfl, Tryz.underlying115, rfl, (by simp only [List.length_map, hl]; kernel_rfl), (by simp only [List.length_map, hl]; decide), stat_at nm M hM 30 _ rfl 270 (by decide), Tryz.func107, by kernel_rfl, rfl, fun w1 => rec107 ⟨#[90, 111, 110, 101, 100]⟩ (M 30) hl (hM.2 30 (by decide) (by decide)) w1⟩
theorem lnok31 (nm : ByteArray) (M : Nat → List Int) (hM : StatOk M) : LnOk 123 (statArgs nm M) 32 264 ⟨ "nodes.go:700", 108, 117, ⟨#[77, 101, 116, 97, 70, 105, 108, 101]⟩, (M 31).map (Value.int .u32), (rf108.zip (M 31)).map (fun p => uintM p.1.1 p.2)⟩ :=
  have hl : (M 31).length = 1 := hM.1 31 (by decide)
  ⟨stats_tab31, _, _, 273, _, Tryz.f108, Tryz.underlying123, rfl, rfl, rfl, Tryz.underlying117, rfl, (by simp only [List.length_map, hl]; kernel_rfl), (by simp only [List.length_map, hl]; decide), stat_at nm M hM 31 _ rfl 273 (by decide), Tryz.func108, by kernel_rfl, rfl, fun w1 => rec108 ⟨#[77, 101, 116, 97, 70, 105, 108, 101]⟩ (M 31) hl (hM.2 31 (by decide) (by decide)) w1⟩
theorem lnok32 (nm : ByteArray) (M : Nat → List Int) (hM : StatOk M) : LnOk 123 (statArgs nm M) 33 272 ⟨ "nodes.go:701", 109, 119, ⟨#[68, 101, 102, 101, 114, 82, 101, 108, 111, 103]⟩, (M 32).map (Value.int .u64), (rf109.zip (M 32)).map (fun p => uintM p.1.1 p.2)⟩ :=
  have hl : (M 32).length = 1 := hM.1 32 (by decide)
  ⟨stats_tab32, _, _, 274, _, Tryz.f109, Tryz.underlying123, rfl, rfl, rfl, Tryz.underlying119, rfl, (by simp only [List.length_map, hl]; kernel_rfl), (by simp only [List.length_map, hl]; decide), stat_at nm M hM 32 _ rfl 274 (by decide), Tryz.func109, by kernel_rfl, rfl, fun w1 => rec109 ⟨#[68, 101, 102, 101, 114, 82, 101, 108, 111, 103]⟩ (M 32) hl w1⟩
theorem lnok33 (nm : ByteArray) (M : Nat → List Int) (hM : StatOk M) : LnOk 123 (statArgs nm M) 34 280 ⟨ "nodes.go:702", 110, 121, ⟨#[71, 99, 88, 112, 99]⟩, (M 33).map (Value.int .u64), (rf110.zip (M 33)).map (fun p => uintM p.1.1 p.2)⟩ :=
  have hl : (M 33).length = 1 := hM.1 33 (by decide)
  ⟨stats_tab33, _, _, 275, _, Tryz.f110, Tryz.underlying123, rfl, rfl, rfl, Tryz.underlying121, rfl, (by simp only [List.length_map, hl]; kernel_rfl), (by simp only [List.length_map, hl]; decide), stat_at nm M hM 33 _ rfl 275 (by decide), Tryz.func110, by kernel_rfl, rfl, fun w1 => rec110 ⟨#[71, 99, 88, 112, 99]⟩ (M 33) hl w1⟩
theorem stats_ok (nm : ByteArray) (M : Nat → List Int) (hM : StatOk M) : ∀ i x, (statLns M)[i]? = some x → LnOk 123 (statArgs nm M) (1 + i) (16 + 8 * i) x
  | 0, x, h => by cases h; exact lnok0 nm M hM
  | 1, x, h => by cases h; exact lnok1 nm M hM
  | 2, x, h => by cases h; exact lnok2 nm M hM
  | 3, x, h => by cases h; exact lnok3 nm M hM
  | 4, x, h => by cases h; exact lnok4 nm M hM
  | 5, x, h => by cases h; exact lnok5 nm M hM
  | 6, x, h => by cases h; exact lnok6 nm M hM
  | 7, x, h => by cases h; exact lnok7 nm M hM
  | 8, x, h => by cases h; exact lnok8 nm M hM
  | 9, x, h => by cases h; exact lnok9 nm M hM
  | 10, x, h => by cases h; exact lnok10 nm M hM
  | 11, x, h => by cases h; exact lnok11 nm M hM
  | 12, x, h => by cases h; exact lnok12 nm M hM
  | 13, x, h => by cases h; exact lnok13 nm M hM
  | 14, x, h => by cases h; exact lnok14 nm M hM
  | 15, x, h => by cases h; exact lnok15 nm M hM
  | 16, x, h => by cases h; exact lnok16 nm M hM
  | 17, x, h => by cases h; exact lnok17 nm M hM
  | 18, x, h => by cases h; exact lnok18 nm M hM
  | 19, x, h => by cases h; exact lnok19 nm M hM
  | 20, x, h => by cases h; exact lnok20 nm M hM
  | 21, x, h => by cases h; exact lnok21 nm M hM
  | 22, x, h => by cases h; exact lnok22 nm M hM
  | 23, x, h => by cases h; exact lnok23 nm M hM
  | 24, x, h => by cases h; exact lnok24 nm M hM
  | 25, x, h => by cases h; exact lnok25 nm M hM
  | 26, x, h => by cases h; exact lnok26 nm M hM
  | 27, x, h => by cases h; exact lnok27 nm M hM
  | 28, x, h => by cases h; exact lnok28 nm M hM
  | 29, x, h => by cases h; exact lnok29 nm M hM
  | 30, x, h => by cases h; exact lnok30 nm M hM
  | 31, x, h => by cases h; exact lnok31 nm M hM
  | 32, x, h => by cases h; exact lnok32 nm M hM
  | 33, x, h => by cases h; exact lnok33 nm M hM
  | i + 34, x, h => by simp [statLns] at h
theorem xfsStats_calls (name nm : ByteArray) (M : Nat → List Int) (hM : StatOk M) (w : World) : Calls Tryz.prog 25 #[.string name, .agg (statArgs nm M)] w (RecPost w name (textM ⟨#[78, 97, 109, 101]⟩ nm :: (statLns M).map (fun x => recM x.name x.ys))) :=
  stats_calls 123 "nodes.go:666" "nodes.go:667" "nodes.go:668" "nodes.go:703" ⟨#[78, 97, 109, 101]⟩ (statLns M) 25 Tryz.f25 Tryz.func25 (stats_body M) rfl (by show 16 + 8 * 34 + 1 ≤ 289; decide) (by show 34 ≤ 900; decide) ⟨_, _, Tryz.underlying123, rfl, rfl, rfl⟩ name nm (statArgs nm M) rfl (stats_ok nm M hM) w
end Go.Proofs.YtfcalbjebomgcaaGreatDoor.X
