/- parseProcNetstat's body as a term over its arms, and that the program's body is that term. (Written by a program of this claim.) -/
import Derived.Test.YtabfglmpnkgecaaGreatDoorM02
import Derived.Test.YtabfglmpnkgecaaGreatDoorM04
import Derived.Deep.LoopGhost
import Derived.Test.YtabfglmpnkgecaaGreatDoorM03
set_option linter.unusedVariables false
set_option linter.unusedSimpArgs false
namespace Go.Proofs.YtabfglmpnkgecaaGreatDoor.X
open Go.RowKit Go.Proofs.YtabfglmpnkgecaaGreatDoorW.PrintWords Go.Proofs.YtabfglmpnkgecaaGreatDoorW.PrintLast Go.Proofs.YtabfglmpnkgecaaGreatDoorW.PrintMore Go.Proofs.YtabfglmpnkgecaaGreatDoor.Q
structure Arm where
  p0 : String
  p1 : String
  key : ByteArray
  j : Nat
/-- A switch over keys: each arm sets one field to the address in slot 12. -/
def armsCode (k fld FT : Nat) : List Arm → Nat → Nat → Code
  | [], _, _ => .skip
  | x :: l, r, s => .seq (.region r [mkO x.p0 (some (s + 1)) (.binOp .eql 9 (.tmp k) (.const (.string x.key)) 9) 4 [], mkO x.p0 (some s) (.assign (.tmp (s + 1))) 4 [⟨0, .data⟩]].toArray false)
      (.cond (.tmp s) (.region (r + 1) [mkO x.p1 (some (s + 2)) (.fieldAddr 58 (.tmp 7) fld) 0 [], mkO x.p1 (some (s + 3)) (.fieldAddr FT (.tmp (s + 2)) x.j) 0 [⟨0, .data⟩], mkO x.p1 none (.store 52 (.tmp (s + 3)) (.tmp 12)) 0 [⟨1, .data⟩]].toArray false) (armsCode k fld FT l (r + 2) (s + 4)))
def tcpArms : List Arm :=
  [⟨ "proc_netstat.go:220", "proc_netstat.go:221", ⟨#[83, 121, 110, 99, 111, 111, 107, 105, 101, 115, 83, 101, 110, 116]⟩, 0⟩,
   ⟨ "proc_netstat.go:222", "proc_netstat.go:223", ⟨#[83, 121, 110, 99, 111, 111, 107, 105, 101, 115, 82, 101, 99, 118]⟩, 1⟩,
   ⟨ "proc_netstat.go:224", "proc_netstat.go:225", ⟨#[83, 121, 110, 99, 111, 111, 107, 105, 101, 115, 70, 97, 105, 108, 101, 100]⟩, 2⟩,
   ⟨ "proc_netstat.go:226", "proc_netstat.go:227", ⟨#[69, 109, 98, 114, 121, 111, 110, 105, 99, 82, 115, 116, 115]⟩, 3⟩,
   ⟨ "proc_netstat.go:228", "proc_netstat.go:229", ⟨#[80, 114, 117, 110, 101, 67, 97, 108, 108, 101, 100]⟩, 4⟩,
   ⟨ "proc_netstat.go:230", "proc_netstat.go:231", ⟨#[82, 99, 118, 80, 114, 117, 110, 101, 100]⟩, 5⟩,
   ⟨ "proc_netstat.go:232", "proc_netstat.go:233", ⟨#[79, 102, 111, 80, 114, 117, 110, 101, 100]⟩, 6⟩,
   ⟨ "proc_netstat.go:234", "proc_netstat.go:235", ⟨#[79, 117, 116, 79, 102, 87, 105, 110, 100, 111, 119, 73, 99, 109, 112, 115]⟩, 7⟩,
   ⟨ "proc_netstat.go:236", "proc_netstat.go:237", ⟨#[76, 111, 99, 107, 68, 114, 111, 112, 112, 101, 100, 73, 99, 109, 112, 115]⟩, 8⟩,
   ⟨ "proc_netstat.go:238", "proc_netstat.go:239", ⟨#[65, 114, 112, 70, 105, 108, 116, 101, 114]⟩, 9⟩,
   ⟨ "proc_netstat.go:240", "proc_netstat.go:241", ⟨#[84, 87]⟩, 10⟩,
   ⟨ "proc_netstat.go:242", "proc_netstat.go:243", ⟨#[84, 87, 82, 101, 99, 121, 99, 108, 101, 100]⟩, 11⟩,
   ⟨ "proc_netstat.go:244", "proc_netstat.go:245", ⟨#[84, 87, 75, 105, 108, 108, 101, 100]⟩, 12⟩,
   ⟨ "proc_netstat.go:246", "proc_netstat.go:247", ⟨#[80, 65, 87, 83, 65, 99, 116, 105, 118, 101]⟩, 13⟩,
   ⟨ "proc_netstat.go:248", "proc_netstat.go:249", ⟨#[80, 65, 87, 83, 69, 115, 116, 97, 98]⟩, 14⟩,
   ⟨ "proc_netstat.go:250", "proc_netstat.go:251", ⟨#[68, 101, 108, 97, 121, 101, 100, 65, 67, 75, 115]⟩, 15⟩,
   ⟨ "proc_netstat.go:252", "proc_netstat.go:253", ⟨#[68, 101, 108, 97, 121, 101, 100, 65, 67, 75, 76, 111, 99, 107, 101, 100]⟩, 16⟩,
   ⟨ "proc_netstat.go:254", "proc_netstat.go:255", ⟨#[68, 101, 108, 97, 121, 101, 100, 65, 67, 75, 76, 111, 115, 116]⟩, 17⟩,
   ⟨ "proc_netstat.go:256", "proc_netstat.go:257", ⟨#[76, 105, 115, 116, 101, 110, 79, 118, 101, 114, 102, 108, 111, 119, 115]⟩, 18⟩,
   ⟨ "proc_netstat.go:258", "proc_netstat.go:259", ⟨#[76, 105, 115, 116, 101, 110, 68, 114, 111, 112, 115]⟩, 19⟩,
   ⟨ "proc_netstat.go:260", "proc_netstat.go:261", ⟨#[84, 67, 80, 72, 80, 72, 105, 116, 115]⟩, 20⟩,
   ⟨ "proc_netstat.go:262", "proc_netstat.go:263", ⟨#[84, 67, 80, 80, 117, 114, 101, 65, 99, 107, 115]⟩, 21⟩,
   ⟨ "proc_netstat.go:264", "proc_netstat.go:265", ⟨#[84, 67, 80, 72, 80, 65, 99, 107, 115]⟩, 22⟩,
   ⟨ "proc_netstat.go:266", "proc_netstat.go:267", ⟨#[84, 67, 80, 82, 101, 110, 111, 82, 101, 99, 111, 118, 101, 114, 121]⟩, 23⟩,
   ⟨ "proc_netstat.go:268", "proc_netstat.go:269", ⟨#[84, 67, 80, 83, 97, 99, 107, 82, 101, 99, 111, 118, 101, 114, 121]⟩, 24⟩,
   ⟨ "proc_netstat.go:270", "proc_netstat.go:271", ⟨#[84, 67, 80, 83, 65, 67, 75, 82, 101, 110, 101, 103, 105, 110, 103]⟩, 25⟩,
   ⟨ "proc_netstat.go:272", "proc_netstat.go:273", ⟨#[84, 67, 80, 83, 65, 67, 75, 82, 101, 111, 114, 100, 101, 114]⟩, 26⟩,
   ⟨ "proc_netstat.go:274", "proc_netstat.go:275", ⟨#[84, 67, 80, 82, 101, 110, 111, 82, 101, 111, 114, 100, 101, 114]⟩, 27⟩,
   ⟨ "proc_netstat.go:276", "proc_netstat.go:277", ⟨#[84, 67, 80, 84, 83, 82, 101, 111, 114, 100, 101, 114]⟩, 28⟩,
   ⟨ "proc_netstat.go:278", "proc_netstat.go:279", ⟨#[84, 67, 80, 70, 117, 108, 108, 85, 110, 100, 111]⟩, 29⟩,
   ⟨ "proc_netstat.go:280", "proc_netstat.go:281", ⟨#[84, 67, 80, 80, 97, 114, 116, 105, 97, 108, 85, 110, 100, 111]⟩, 30⟩,
   ⟨ "proc_netstat.go:282", "proc_netstat.go:283", ⟨#[84, 67, 80, 68, 83, 65, 67, 75, 85, 110, 100, 111]⟩, 31⟩,
   ⟨ "proc_netstat.go:284", "proc_netstat.go:285", ⟨#[84, 67, 80, 76, 111, 115, 115, 85, 110, 100, 111]⟩, 32⟩,
   ⟨ "proc_netstat.go:286", "proc_netstat.go:287", ⟨#[84, 67, 80, 76, 111, 115, 116, 82, 101, 116, 114, 97, 110, 115, 109, 105, 116]⟩, 33⟩,
   ⟨ "proc_netstat.go:288", "proc_netstat.go:289", ⟨#[84, 67, 80, 82, 101, 110, 111, 70, 97, 105, 108, 117, 114, 101, 115]⟩, 34⟩,
   ⟨ "proc_netstat.go:290", "proc_netstat.go:291", ⟨#[84, 67, 80, 83, 97, 99, 107, 70, 97, 105, 108, 117, 114, 101, 115]⟩, 35⟩,
   ⟨ "proc_netstat.go:292", "proc_netstat.go:293", ⟨#[84, 67, 80, 76, 111, 115, 115, 70, 97, 105, 108, 117, 114, 101, 115]⟩, 36⟩,
   ⟨ "proc_netstat.go:294", "proc_netstat.go:295", ⟨#[84, 67, 80, 70, 97, 115, 116, 82, 101, 116, 114, 97, 110, 115]⟩, 37⟩,
   ⟨ "proc_netstat.go:296", "proc_netstat.go:297", ⟨#[84, 67, 80, 83, 108, 111, 119, 83, 116, 97, 114, 116, 82, 101, 116, 114, 97, 110, 115]⟩, 38⟩,
   ⟨ "proc_netstat.go:298", "proc_netstat.go:299", ⟨#[84, 67, 80, 84, 105, 109, 101, 111, 117, 116, 115]⟩, 39⟩,
   ⟨ "proc_netstat.go:300", "proc_netstat.go:301", ⟨#[84, 67, 80, 76, 111, 115, 115, 80, 114, 111, 98, 101, 115]⟩, 40⟩,
   ⟨ "proc_netstat.go:302", "proc_netstat.go:303", ⟨#[84, 67, 80, 76, 111, 115, 115, 80, 114, 111, 98, 101, 82, 101, 99, 111, 118, 101, 114, 121]⟩, 41⟩,
   ⟨ "proc_netstat.go:304", "proc_netstat.go:305", ⟨#[84, 67, 80, 82, 101, 110, 111, 82, 101, 99, 111, 118, 101, 114, 121, 70, 97, 105, 108]⟩, 42⟩,
   ⟨ "proc_netstat.go:306", "proc_netstat.go:307", ⟨#[84, 67, 80, 83, 97, 99, 107, 82, 101, 99, 111, 118, 101, 114, 121, 70, 97, 105, 108]⟩, 43⟩,
   ⟨ "proc_netstat.go:308", "proc_netstat.go:309", ⟨#[84, 67, 80, 82, 99, 118, 67, 111, 108, 108, 97, 112, 115, 101, 100]⟩, 44⟩,
   ⟨ "proc_netstat.go:310", "proc_netstat.go:311", ⟨#[84, 67, 80, 68, 83, 65, 67, 75, 79, 108, 100, 83, 101, 110, 116]⟩, 45⟩,
   ⟨ "proc_netstat.go:312", "proc_netstat.go:313", ⟨#[84, 67, 80, 68, 83, 65, 67, 75, 79, 102, 111, 83, 101, 110, 116]⟩, 46⟩,
   ⟨ "proc_netstat.go:314", "proc_netstat.go:315", ⟨#[84, 67, 80, 68, 83, 65, 67, 75, 82, 101, 99, 118]⟩, 47⟩,
   ⟨ "proc_netstat.go:316", "proc_netstat.go:317", ⟨#[84, 67, 80, 68, 83, 65, 67, 75, 79, 102, 111, 82, 101, 99, 118]⟩, 48⟩,
   ⟨ "proc_netstat.go:318", "proc_netstat.go:319", ⟨#[84, 67, 80, 65, 98, 111, 114, 116, 79, 110, 68, 97, 116, 97]⟩, 49⟩,
   ⟨ "proc_netstat.go:320", "proc_netstat.go:321", ⟨#[84, 67, 80, 65, 98, 111, 114, 116, 79, 110, 67, 108, 111, 115, 101]⟩, 50⟩,
   ⟨ "proc_netstat.go:322", "proc_netstat.go:323", ⟨#[84, 67, 80, 68, 101, 102, 101, 114, 65, 99, 99, 101, 112, 116, 68, 114, 111, 112]⟩, 70⟩,
   ⟨ "proc_netstat.go:324", "proc_netstat.go:325", ⟨#[73, 80, 82, 101, 118, 101, 114, 115, 101, 80, 97, 116, 104, 70, 105, 108, 116, 101, 114]⟩, 71⟩,
   ⟨ "proc_netstat.go:326", "proc_netstat.go:327", ⟨#[84, 67, 80, 84, 105, 109, 101, 87, 97, 105, 116, 79, 118, 101, 114, 102, 108, 111, 119]⟩, 72⟩,
   ⟨ "proc_netstat.go:328", "proc_netstat.go:329", ⟨#[84, 67, 80, 82, 101, 113, 81, 70, 117, 108, 108, 68, 111, 67, 111, 111, 107, 105, 101, 115]⟩, 73⟩,
   ⟨ "proc_netstat.go:330", "proc_netstat.go:331", ⟨#[84, 67, 80, 82, 101, 113, 81, 70, 117, 108, 108, 68, 114, 111, 112]⟩, 74⟩,
   ⟨ "proc_netstat.go:332", "proc_netstat.go:333", ⟨#[84, 67, 80, 82, 101, 116, 114, 97, 110, 115, 70, 97, 105, 108]⟩, 75⟩,
   ⟨ "proc_netstat.go:334", "proc_netstat.go:335", ⟨#[84, 67, 80, 82, 99, 118, 67, 111, 97, 108, 101, 115, 99, 101]⟩, 76⟩,
   ⟨ "proc_netstat.go:336", "proc_netstat.go:337", ⟨#[84, 67, 80, 82, 99, 118, 81, 68, 114, 111, 112]⟩, 77⟩,
   ⟨ "proc_netstat.go:338", "proc_netstat.go:339", ⟨#[84, 67, 80, 79, 70, 79, 81, 117, 101, 117, 101]⟩, 78⟩,
   ⟨ "proc_netstat.go:340", "proc_netstat.go:341", ⟨#[84, 67, 80, 79, 70, 79, 68, 114, 111, 112]⟩, 79⟩,
   ⟨ "proc_netstat.go:342", "proc_netstat.go:343", ⟨#[84, 67, 80, 79, 70, 79, 77, 101, 114, 103, 101]⟩, 80⟩,
   ⟨ "proc_netstat.go:344", "proc_netstat.go:345", ⟨#[84, 67, 80, 67, 104, 97, 108, 108, 101, 110, 103, 101, 65, 67, 75]⟩, 81⟩,
   ⟨ "proc_netstat.go:346", "proc_netstat.go:347", ⟨#[84, 67, 80, 83, 89, 78, 67, 104, 97, 108, 108, 101, 110, 103, 101]⟩, 82⟩,
   ⟨ "proc_netstat.go:348", "proc_netstat.go:349", ⟨#[84, 67, 80, 70, 97, 115, 116, 79, 112, 101, 110, 65, 99, 116, 105, 118, 101]⟩, 83⟩,
   ⟨ "proc_netstat.go:350", "proc_netstat.go:351", ⟨#[84, 67, 80, 70, 97, 115, 116, 79, 112, 101, 110, 65, 99, 116, 105, 118, 101, 70, 97, 105, 108]⟩, 84⟩,
   ⟨ "proc_netstat.go:352", "proc_netstat.go:353", ⟨#[84, 67, 80, 70, 97, 115, 116, 79, 112, 101, 110, 80, 97, 115, 115, 105, 118, 101]⟩, 85⟩,
   ⟨ "proc_netstat.go:354", "proc_netstat.go:355", ⟨#[84, 67, 80, 70, 97, 115, 116, 79, 112, 101, 110, 80, 97, 115, 115, 105, 118, 101, 70, 97, 105, 108]⟩, 86⟩,
   ⟨ "proc_netstat.go:356", "proc_netstat.go:357", ⟨#[84, 67, 80, 70, 97, 115, 116, 79, 112, 101, 110, 76, 105, 115, 116, 101, 110, 79, 118, 101, 114, 102, 108, 111, 119]⟩, 87⟩,
   ⟨ "proc_netstat.go:358", "proc_netstat.go:359", ⟨#[84, 67, 80, 70, 97, 115, 116, 79, 112, 101, 110, 67, 111, 111, 107, 105, 101, 82, 101, 113, 100]⟩, 88⟩,
   ⟨ "proc_netstat.go:360", "proc_netstat.go:361", ⟨#[84, 67, 80, 70, 97, 115, 116, 79, 112, 101, 110, 66, 108, 97, 99, 107, 104, 111, 108, 101]⟩, 89⟩,
   ⟨ "proc_netstat.go:362", "proc_netstat.go:363", ⟨#[84, 67, 80, 83, 112, 117, 114, 105, 111, 117, 115, 82, 116, 120, 72, 111, 115, 116, 81, 117, 101, 117, 101, 115]⟩, 90⟩,
   ⟨ "proc_netstat.go:364", "proc_netstat.go:365", ⟨#[66, 117, 115, 121, 80, 111, 108, 108, 82, 120, 80, 97, 99, 107, 101, 116, 115]⟩, 91⟩,
   ⟨ "proc_netstat.go:366", "proc_netstat.go:367", ⟨#[84, 67, 80, 65, 117, 116, 111, 67, 111, 114, 107, 105, 110, 103]⟩, 92⟩,
   ⟨ "proc_netstat.go:368", "proc_netstat.go:369", ⟨#[84, 67, 80, 70, 114, 111, 109, 90, 101, 114, 111, 87, 105, 110, 100, 111, 119, 65, 100, 118]⟩, 93⟩,
   ⟨ "proc_netstat.go:370", "proc_netstat.go:371", ⟨#[84, 67, 80, 84, 111, 90, 101, 114, 111, 87, 105, 110, 100, 111, 119, 65, 100, 118]⟩, 94⟩,
   ⟨ "proc_netstat.go:372", "proc_netstat.go:373", ⟨#[84, 67, 80, 87, 97, 110, 116, 90, 101, 114, 111, 87, 105, 110, 100, 111, 119, 65, 100, 118]⟩, 95⟩,
   ⟨ "proc_netstat.go:374", "proc_netstat.go:375", ⟨#[84, 67, 80, 83, 121, 110, 82, 101, 116, 114, 97, 110, 115]⟩, 96⟩,
   ⟨ "proc_netstat.go:376", "proc_netstat.go:377", ⟨#[84, 67, 80, 79, 114, 105, 103, 68, 97, 116, 97, 83, 101, 110, 116]⟩, 97⟩,
   ⟨ "proc_netstat.go:378", "proc_netstat.go:379", ⟨#[84, 67, 80, 72, 121, 115, 116, 97, 114, 116, 84, 114, 97, 105, 110, 68, 101, 116, 101, 99, 116]⟩, 98⟩,
   ⟨ "proc_netstat.go:380", "proc_netstat.go:381", ⟨#[84, 67, 80, 72, 121, 115, 116, 97, 114, 116, 84, 114, 97, 105, 110, 67, 119, 110, 100]⟩, 99⟩,
   ⟨ "proc_netstat.go:382", "proc_netstat.go:383", ⟨#[84, 67, 80, 72, 121, 115, 116, 97, 114, 116, 68, 101, 108, 97, 121, 68, 101, 116, 101, 99, 116]⟩, 100⟩,
   ⟨ "proc_netstat.go:384", "proc_netstat.go:385", ⟨#[84, 67, 80, 72, 121, 115, 116, 97, 114, 116, 68, 101, 108, 97, 121, 67, 119, 110, 100]⟩, 101⟩,
   ⟨ "proc_netstat.go:386", "proc_netstat.go:387", ⟨#[84, 67, 80, 65, 67, 75, 83, 107, 105, 112, 112, 101, 100, 83, 121, 110, 82, 101, 99, 118]⟩, 102⟩,
   ⟨ "proc_netstat.go:388", "proc_netstat.go:389", ⟨#[84, 67, 80, 65, 67, 75, 83, 107, 105, 112, 112, 101, 100, 80, 65, 87, 83]⟩, 103⟩,
   ⟨ "proc_netstat.go:390", "proc_netstat.go:391", ⟨#[84, 67, 80, 65, 67, 75, 83, 107, 105, 112, 112, 101, 100, 83, 101, 113]⟩, 104⟩,
   ⟨ "proc_netstat.go:392", "proc_netstat.go:393", ⟨#[84, 67, 80, 65, 67, 75, 83, 107, 105, 112, 112, 101, 100, 70, 105, 110, 87, 97, 105, 116, 50]⟩, 105⟩,
   ⟨ "proc_netstat.go:394", "proc_netstat.go:395", ⟨#[84, 67, 80, 65, 67, 75, 83, 107, 105, 112, 112, 101, 100, 84, 105, 109, 101, 87, 97, 105, 116]⟩, 106⟩,
   ⟨ "proc_netstat.go:396", "proc_netstat.go:397", ⟨#[84, 67, 80, 65, 67, 75, 83, 107, 105, 112, 112, 101, 100, 67, 104, 97, 108, 108, 101, 110, 103, 101]⟩, 107⟩,
   ⟨ "proc_netstat.go:398", "proc_netstat.go:399", ⟨#[84, 67, 80, 87, 105, 110, 80, 114, 111, 98, 101]⟩, 108⟩,
   ⟨ "proc_netstat.go:400", "proc_netstat.go:401", ⟨#[84, 67, 80, 75, 101, 101, 112, 65, 108, 105, 118, 101]⟩, 109⟩,
   ⟨ "proc_netstat.go:402", "proc_netstat.go:403", ⟨#[84, 67, 80, 77, 84, 85, 80, 70, 97, 105, 108]⟩, 110⟩,
   ⟨ "proc_netstat.go:404", "proc_netstat.go:405", ⟨#[84, 67, 80, 77, 84, 85, 80, 83, 117, 99, 99, 101, 115, 115]⟩, 111⟩,
   ⟨ "proc_netstat.go:406", "proc_netstat.go:407", ⟨#[84, 67, 80, 87, 113, 117, 101, 117, 101, 84, 111, 111, 66, 105, 103]⟩, 112⟩,
   ⟨ "proc_netstat.go:408", "proc_netstat.go:409", ⟨#[84, 67, 80, 76, 111, 115, 115]⟩, 113⟩,
   ⟨ "proc_netstat.go:410", "proc_netstat.go:411", ⟨#[80, 65, 87, 83, 80, 97, 115, 115, 105, 118, 101]⟩, 114⟩,
   ⟨ "proc_netstat.go:412", "proc_netstat.go:413", ⟨#[84, 67, 80, 70, 111, 114, 119, 97, 114, 100, 82, 101, 116, 114, 97, 110, 115]⟩, 115⟩,
   ⟨ "proc_netstat.go:414", "proc_netstat.go:415", ⟨#[84, 67, 80, 83, 99, 104, 101, 100, 117, 108, 101, 114, 70, 97, 105, 108, 101, 100]⟩, 116⟩,
   ⟨ "proc_netstat.go:416", "proc_netstat.go:417", ⟨#[84, 67, 80, 80, 114, 101, 113, 117, 101, 117, 101, 100]⟩, 117⟩,
   ⟨ "proc_netstat.go:418", "proc_netstat.go:419", ⟨#[84, 67, 80, 68, 105, 114, 101, 99, 116, 67, 111, 112, 121, 70, 114, 111, 109, 66, 97, 99, 107, 108, 111, 103]⟩, 118⟩,
   ⟨ "proc_netstat.go:420", "proc_netstat.go:421", ⟨#[84, 67, 80, 68, 105, 114, 101, 99, 116, 67, 111, 112, 121, 70, 114, 111, 109, 80, 114, 101, 113, 117, 101, 117, 101]⟩, 119⟩,
   ⟨ "proc_netstat.go:422", "proc_netstat.go:423", ⟨#[84, 67, 80, 80, 114, 101, 113, 117, 101, 117, 101, 68, 114, 111, 112, 112, 101, 100]⟩, 120⟩,
   ⟨ "proc_netstat.go:424", "proc_netstat.go:425", ⟨#[84, 67, 80, 70, 65, 67, 75, 82, 101, 111, 114, 100, 101, 114]⟩, 121⟩,
   ⟨ "proc_netstat.go:426", "proc_netstat.go:427", ⟨#[84, 67, 80, 72, 80, 72, 105, 116, 115, 84, 111, 85, 115, 101, 114]⟩, 122⟩]
def ipArms : List Arm :=
  [⟨ "proc_netstat.go:431", "proc_netstat.go:432", ⟨#[73, 110, 78, 111, 82, 111, 117, 116, 101, 115]⟩, 0⟩,
   ⟨ "proc_netstat.go:433", "proc_netstat.go:434", ⟨#[73, 110, 84, 114, 117, 110, 99, 97, 116, 101, 100, 80, 107, 116, 115]⟩, 1⟩,
   ⟨ "proc_netstat.go:435", "proc_netstat.go:436", ⟨#[73, 110, 77, 99, 97, 115, 116, 80, 107, 116, 115]⟩, 2⟩,
   ⟨ "proc_netstat.go:437", "proc_netstat.go:438", ⟨#[79, 117, 116, 77, 99, 97, 115, 116, 80, 107, 116, 115]⟩, 3⟩,
   ⟨ "proc_netstat.go:439", "proc_netstat.go:440", ⟨#[73, 110, 66, 99, 97, 115, 116, 80, 107, 116, 115]⟩, 4⟩,
   ⟨ "proc_netstat.go:441", "proc_netstat.go:442", ⟨#[79, 117, 116, 66, 99, 97, 115, 116, 80, 107, 116, 115]⟩, 5⟩,
   ⟨ "proc_netstat.go:443", "proc_netstat.go:444", ⟨#[73, 110, 79, 99, 116, 101, 116, 115]⟩, 6⟩,
   ⟨ "proc_netstat.go:445", "proc_netstat.go:446", ⟨#[79, 117, 116, 79, 99, 116, 101, 116, 115]⟩, 7⟩,
   ⟨ "proc_netstat.go:447", "proc_netstat.go:448", ⟨#[73, 110, 77, 99, 97, 115, 116, 79, 99, 116, 101, 116, 115]⟩, 8⟩,
   ⟨ "proc_netstat.go:449", "proc_netstat.go:450", ⟨#[79, 117, 116, 77, 99, 97, 115, 116, 79, 99, 116, 101, 116, 115]⟩, 9⟩,
   ⟨ "proc_netstat.go:451", "proc_netstat.go:452", ⟨#[73, 110, 66, 99, 97, 115, 116, 79, 99, 116, 101, 116, 115]⟩, 10⟩,
   ⟨ "proc_netstat.go:453", "proc_netstat.go:454", ⟨#[79, 117, 116, 66, 99, 97, 115, 116, 79, 99, 116, 101, 116, 115]⟩, 11⟩,
   ⟨ "proc_netstat.go:455", "proc_netstat.go:456", ⟨#[73, 110, 67, 115, 117, 109, 69, 114, 114, 111, 114, 115]⟩, 12⟩,
   ⟨ "proc_netstat.go:457", "proc_netstat.go:458", ⟨#[73, 110, 78, 111, 69, 67, 84, 80, 107, 116, 115]⟩, 13⟩,
   ⟨ "proc_netstat.go:459", "proc_netstat.go:460", ⟨#[73, 110, 69, 67, 84, 49, 80, 107, 116, 115]⟩, 14⟩,
   ⟨ "proc_netstat.go:461", "proc_netstat.go:462", ⟨#[73, 110, 69, 67, 84, 48, 80, 107, 116, 115]⟩, 15⟩,
   ⟨ "proc_netstat.go:463", "proc_netstat.go:464", ⟨#[73, 110, 67, 69, 80, 107, 116, 115]⟩, 16⟩,
   ⟨ "proc_netstat.go:465", "proc_netstat.go:466", ⟨#[82, 101, 97, 115, 109, 79, 118, 101, 114, 108, 97, 112, 115]⟩, 17⟩]
def reg0 : List Oper :=
  [mkO "proc_netstat.go:195" (some 4) (Op.alloc 58) 0 [],
   mkO "proc_netstat.go:195" (some 5) (Op.assign (Operand.const Value.nilIface)) 78 []]
def reg1 : List Oper :=
  [mkO "proc_netstat.go:197" (some 15) (Op.move (Operand.tmp 0)) 60 [],
   mkO "proc_netstat.go:197" (some 16) (Op.call { callee := Callee.value (Operand.func 47), args := #[Operand.tmp 15], argTypes := #[60] }) 98 [⟨0, .data⟩],
   mkO "proc_netstat.go:197" (some 6) (Op.assign (Operand.tmp 16)) 98 [⟨1, .data⟩, ⟨1, .chain⟩, ⟨0, .phase⟩, ⟨1, .phase⟩]]
def reg2 : List Oper :=
  [mkO "proc_netstat.go:198" (some 17) (Op.build 58 #[]) 58 [],
   mkO "proc_netstat.go:198" (some 7) (Op.alloc 58) 0 [],
   mkO "proc_netstat.go:198" none (Op.store 58 (Operand.tmp 7) (Operand.tmp 17)) 0 [⟨1, .data⟩, ⟨0, .data⟩, ⟨0, .phase⟩, ⟨1, .phase⟩]]
def reg3 : List Oper :=
  [mkO "proc_netstat.go:201" (some 18) (Op.move (Operand.tmp 6)) 98 [],
   mkO "proc_netstat.go:201" (some 19) (Op.call { callee := Callee.value (Operand.func 48), args := #[Operand.tmp 18], argTypes := #[98] }) 4 [⟨0, .data⟩]]
def reg4 : List Oper :=
  [mkO "proc_netstat.go:202" (some 20) (Op.move (Operand.tmp 6)) 98 [],
   mkO "proc_netstat.go:202" (some 21) (Op.call { callee := Callee.value (Operand.func 50), args := #[Operand.tmp 20], argTypes := #[98] }) 9 [⟨0, .data⟩],
   mkO "proc_netstat.go:202" (some 22) (Op.call { callee := Callee.value (Operand.func 49), args := #[Operand.tmp 21, Operand.const (Value.string { data := #[32] })], argTypes := #[9, 9] }) 29 [⟨1, .data⟩, ⟨1, .chain⟩],
   mkO "proc_netstat.go:202" (some 8) (Op.assign (Operand.tmp 22)) 29 [⟨2, .data⟩, ⟨2, .chain⟩, ⟨0, .phase⟩, ⟨1, .phase⟩, ⟨2, .phase⟩]]
def reg5 : List Oper :=
  [mkO "proc_netstat.go:203" (some 23) (Op.move (Operand.tmp 6)) 98 [],
   mkO "proc_netstat.go:203" (some 24) (Op.call { callee := Callee.value (Operand.func 48), args := #[Operand.tmp 23], argTypes := #[98] }) 4 [⟨0, .data⟩]]
def reg6 : List Oper :=
  [mkO "proc_netstat.go:204" (some 25) (Op.move (Operand.tmp 6)) 98 [],
   mkO "proc_netstat.go:204" (some 26) (Op.call { callee := Callee.value (Operand.func 50), args := #[Operand.tmp 25], argTypes := #[98] }) 9 [⟨0, .data⟩],
   mkO "proc_netstat.go:204" (some 27) (Op.call { callee := Callee.value (Operand.func 49), args := #[Operand.tmp 26, Operand.const (Value.string { data := #[32] })], argTypes := #[9, 9] }) 29 [⟨1, .data⟩, ⟨1, .chain⟩],
   mkO "proc_netstat.go:204" (some 9) (Op.assign (Operand.tmp 27)) 29 [⟨2, .data⟩, ⟨2, .chain⟩, ⟨0, .phase⟩, ⟨1, .phase⟩, ⟨2, .phase⟩]]
def reg7 : List Oper :=
  [mkO "proc_netstat.go:206" (some 28) (Op.move (Operand.tmp 8)) 29 [],
   mkO "proc_netstat.go:206" (some 29) (Op.indexAddr 29 (Operand.tmp 28) (Operand.const (Value.int IntKind.i64 0))) 0 [⟨0, .data⟩],
   mkO "proc_netstat.go:206" (some 30) (Op.load 9 (Operand.tmp 29)) 9 [⟨1, .data⟩],
   mkO "proc_netstat.go:206" (some 31) (Op.call { callee := Callee.value (Operand.func 51), args := #[Operand.tmp 30, Operand.const (Value.string { data := #[58] })], argTypes := #[9, 9] }) 9 [⟨2, .data⟩],
   mkO "proc_netstat.go:206" (some 10) (Op.assign (Operand.tmp 31)) 9 [⟨3, .data⟩, ⟨3, .chain⟩, ⟨0, .phase⟩, ⟨1, .phase⟩, ⟨2, .phase⟩, ⟨3, .phase⟩]]
def reg8 : List Oper :=
  [mkO "proc_netstat.go:207" (some 32) (Op.move (Operand.tmp 8)) 29 [],
   mkO "proc_netstat.go:207" (some 33) (Op.call { callee := Callee.builtin Builtin.len, args := #[Operand.tmp 32], argTypes := #[29] }) 3 [⟨0, .data⟩],
   mkO "proc_netstat.go:207" (some 34) (Op.move (Operand.tmp 9)) 29 [],
   mkO "proc_netstat.go:207" (some 35) (Op.call { callee := Callee.builtin Builtin.len, args := #[Operand.tmp 34], argTypes := #[29] }) 3 [⟨2, .data⟩],
   mkO "proc_netstat.go:207" (some 36) (Op.binOp BinOp.neq 3 (Operand.tmp 33) (Operand.tmp 35) 3) 4 [⟨1, .data⟩, ⟨3, .data⟩]]
def reg9 : List Oper :=
  [mkO "proc_netstat.go:208" (some 37) (Op.load 58 (Operand.tmp 7)) 58 [],
   mkO "proc_netstat.go:208" (some 38) (Op.call { callee := Callee.value (Operand.func 52), args := #[Operand.const (Value.string { data := #[58, 32, 109, 105, 115, 109, 97, 116, 99, 104, 32, 102, 105, 101, 108, 100, 32, 99, 111, 117, 110, 116, 32, 109, 105, 115, 109, 97, 116, 99, 104, 32, 105, 110, 32] })], argTypes := #[9] }) 78 [],
   mkO "proc_netstat.go:208" none (Op.store 58 (Operand.tmp 4) (Operand.tmp 37)) 0 [⟨0, .data⟩, ⟨1, .chain⟩, ⟨0, .phase⟩, ⟨1, .textOnly Departure.lateStoresUnsure⟩],
   mkO "proc_netstat.go:208" (some 5) (Op.assign (Operand.tmp 38)) 78 [⟨1, .data⟩, ⟨2, .chain⟩, ⟨0, .phase⟩, ⟨1, .phase⟩, ⟨2, .phase⟩]]
def reg10 : List Oper :=
  [mkO "proc_netstat.go:210" (some 11) (Op.assign (Operand.const (Value.int IntKind.i64 1))) 3 []]
def reg11 : List Oper :=
  [mkO "proc_netstat.go:210" (some 39) (Op.move (Operand.tmp 11)) 3 [],
   mkO "proc_netstat.go:210" (some 40) (Op.move (Operand.tmp 8)) 29 [],
   mkO "proc_netstat.go:210" (some 41) (Op.call { callee := Callee.builtin Builtin.len, args := #[Operand.tmp 40], argTypes := #[29] }) 3 [⟨1, .data⟩],
   mkO "proc_netstat.go:210" (some 42) (Op.binOp BinOp.lss 3 (Operand.tmp 39) (Operand.tmp 41) 3) 4 [⟨0, .data⟩, ⟨2, .data⟩]]
def reg13 : List Oper :=
  [mkO "proc_netstat.go:211" (some 46) (Op.move (Operand.tmp 9)) 29 [],
   mkO "proc_netstat.go:211" (some 47) (Op.move (Operand.tmp 11)) 3 [],
   mkO "proc_netstat.go:211" (some 48) (Op.indexAddr 29 (Operand.tmp 46) (Operand.tmp 47)) 0 [⟨0, .data⟩, ⟨1, .data⟩],
   mkO "proc_netstat.go:211" (some 49) (Op.load 9 (Operand.tmp 48)) 9 [⟨2, .data⟩],
   mkO "proc_netstat.go:211" (some 50) (Op.call { callee := Callee.value (Operand.func 53), args := #[Operand.tmp 49, Operand.const (Value.int IntKind.i64 64)], argTypes := #[9, 3] }) 104 [⟨3, .data⟩],
   mkO "proc_netstat.go:211" (some 45) (Op.move (Operand.tmp 50)) 104 [⟨4, .data⟩],
   mkO "proc_netstat.go:211" (some 51) (Op.extract (Operand.tmp 45) 0) 36 [⟨5, .data⟩],
   mkO "proc_netstat.go:211" (some 52) (Op.extract (Operand.tmp 45) 1) 78 [⟨5, .data⟩, ⟨9, .gcOnly Departure.lateStores⟩],
   mkO "proc_netstat.go:211" (some 12) (Op.alloc 36) 0 [],
   mkO "proc_netstat.go:211" none (Op.store 36 (Operand.tmp 12) (Operand.tmp 51)) 0 [⟨8, .data⟩, ⟨6, .data⟩, ⟨4, .chain⟩, ⟨0, .phase⟩, ⟨1, .phase⟩, ⟨2, .phase⟩, ⟨3, .phase⟩, ⟨4, .phase⟩, ⟨5, .phase⟩, ⟨6, .phase⟩, ⟨7, .textOnly Departure.lateStores⟩, ⟨8, .phase⟩],
   mkO "proc_netstat.go:211" (some 13) (Op.assign (Operand.tmp 52)) 78 [⟨7, .data⟩, ⟨9, .chain⟩, ⟨0, .phase⟩, ⟨1, .phase⟩, ⟨2, .phase⟩, ⟨3, .phase⟩, ⟨4, .phase⟩, ⟨5, .phase⟩, ⟨6, .phase⟩, ⟨7, .phase⟩, ⟨8, .phase⟩, ⟨9, .phase⟩]]
def reg14 : List Oper :=
  [mkO "proc_netstat.go:212" (some 53) (Op.move (Operand.tmp 13)) 78 [],
   mkO "proc_netstat.go:212" (some 54) (Op.binOp BinOp.neq 78 (Operand.tmp 53) (Operand.const Value.nilIface) 78) 4 [⟨0, .data⟩]]
def reg15 : List Oper :=
  [mkO "proc_netstat.go:213" (some 55) (Op.load 58 (Operand.tmp 7)) 58 [],
   mkO "proc_netstat.go:213" (some 56) (Op.move (Operand.tmp 13)) 78 [⟨2, .gcOnly Departure.lateStores⟩],
   mkO "proc_netstat.go:213" none (Op.store 58 (Operand.tmp 4) (Operand.tmp 55)) 0 [⟨0, .data⟩, ⟨0, .phase⟩, ⟨1, .textOnly Departure.lateStores⟩],
   mkO "proc_netstat.go:213" (some 5) (Op.assign (Operand.tmp 56)) 78 [⟨1, .data⟩, ⟨2, .chain⟩, ⟨0, .phase⟩, ⟨1, .phase⟩, ⟨2, .phase⟩]]
def reg16 : List Oper :=
  [mkO "proc_netstat.go:215" (some 57) (Op.move (Operand.tmp 8)) 29 [],
   mkO "proc_netstat.go:215" (some 58) (Op.move (Operand.tmp 11)) 3 [],
   mkO "proc_netstat.go:215" (some 59) (Op.indexAddr 29 (Operand.tmp 57) (Operand.tmp 58)) 0 [⟨0, .data⟩, ⟨1, .data⟩],
   mkO "proc_netstat.go:215" (some 60) (Op.load 9 (Operand.tmp 59)) 9 [⟨2, .data⟩],
   mkO "proc_netstat.go:215" (some 14) (Op.assign (Operand.tmp 60)) 9 [⟨3, .data⟩, ⟨0, .phase⟩, ⟨1, .phase⟩, ⟨2, .phase⟩, ⟨3, .phase⟩]]
def reg17 : List Oper :=
  [mkO "proc_netstat.go:217" (some 61) (Op.move (Operand.tmp 10)) 9 []]
def reg18 : List Oper :=
  [mkO "proc_netstat.go:218" (some 63) (Op.binOp BinOp.eql 9 (Operand.tmp 61) (Operand.const (Value.string { data := #[84, 99, 112, 69, 120, 116] })) 9) 4 [],
   mkO "proc_netstat.go:218" (some 62) (Op.assign (Operand.tmp 63)) 4 [⟨0, .data⟩]]
def reg19 : List Oper :=
  [mkO "proc_netstat.go:219" (some 64) (Op.move (Operand.tmp 14)) 9 []]
def reg228 : List Oper :=
  [mkO "proc_netstat.go:429" (some 482) (Op.binOp BinOp.eql 9 (Operand.tmp 61) (Operand.const (Value.string { data := #[73, 112, 69, 120, 116] })) 9) 4 [],
   mkO "proc_netstat.go:429" (some 481) (Op.assign (Operand.tmp 482)) 4 [⟨0, .data⟩]]
def reg229 : List Oper :=
  [mkO "proc_netstat.go:430" (some 483) (Op.move (Operand.tmp 14)) 9 []]
def reg12 : List Oper :=
  [mkO "proc_netstat.go:210" (some 43) (Op.move (Operand.tmp 11)) 3 [],
   mkO "proc_netstat.go:210" (some 44) (Op.binOp BinOp.add 3 (Operand.tmp 43) (Operand.const (Value.int IntKind.i64 1)) 3) 3 [⟨0, .data⟩],
   mkO "proc_netstat.go:210" (some 11) (Op.assign (Operand.tmp 44)) 3 [⟨1, .data⟩, ⟨0, .phase⟩, ⟨1, .phase⟩]]
def reg266 : List Oper :=
  [mkO "proc_netstat.go:471" (some 556) (Op.load 58 (Operand.tmp 7)) 58 [],
   mkO "proc_netstat.go:471" (some 557) (Op.move (Operand.tmp 6)) 98 [],
   mkO "proc_netstat.go:471" (some 558) (Op.call { callee := Callee.value (Operand.func 54), args := #[Operand.tmp 557], argTypes := #[98] }) 78 [⟨1, .data⟩],
   mkO "proc_netstat.go:471" none (Op.store 58 (Operand.tmp 4) (Operand.tmp 556)) 0 [⟨0, .data⟩, ⟨2, .chain⟩, ⟨0, .phase⟩, ⟨1, .textOnly Departure.lateStores⟩, ⟨2, .textOnly Departure.lateStoresUnsure⟩],
   mkO "proc_netstat.go:471" (some 5) (Op.assign (Operand.tmp 558)) 78 [⟨2, .data⟩, ⟨3, .chain⟩, ⟨0, .phase⟩, ⟨1, .phase⟩, ⟨2, .phase⟩, ⟨3, .phase⟩]]
def keyCode : Code :=
  .block 3 (.seq (.region 13 reg13.toArray false) (.seq (.seq (.region 14 reg14.toArray false) (.cond (.tmp 54) (.seq (.region 15 reg15.toArray false) .ret) .skip))
    (.seq (.region 16 reg16.toArray false) (.seq (.region 17 reg17.toArray false) (.block 4 (.seq (.region 18 reg18.toArray false) (.cond (.tmp 62)
      (.seq (.region 19 reg19.toArray false) (.block 5 (armsCode 64 1 54 tcpArms 20 65)))
      (.seq (.region 228 reg228.toArray false) (.cond (.tmp 481) (.seq (.region 229 reg229.toArray false) (.block 6 (armsCode 483 2 56 ipArms 230 484))) .skip)))))))))
def keysCode : Code := .loop (.seq (.seq (.region 11 reg11.toArray false) (.cond (.tmp 42) .skip (.exit 2))) (.seq keyCode (.region 12 reg12.toArray false)))
def rowCode : Code :=
  .seq (.seq (.region 3 reg3.toArray false) (.cond (.tmp 19) .skip (.exit 0)))
    (.block 1 (.seq (.region 4 reg4.toArray false) (.seq (.region 5 reg5.toArray false) (.seq (.region 6 reg6.toArray false) (.seq (.region 7 reg7.toArray false)
      (.seq (.seq (.region 8 reg8.toArray false) (.cond (.tmp 36) (.seq (.region 9 reg9.toArray true) .ret) .skip))
        (.seq (.region 10 reg10.toArray false) (.block 2 keysCode))))))))
def parseCode : Code := .seq (.region 0 reg0.toArray false) (.seq (.region 1 reg1.toArray false) (.seq (.region 2 reg2.toArray false) (.seq (.block 0 (.loop rowCode)) (.seq (.region 266 reg266.toArray true) .ret))))
set_option maxRecDepth 1000000 in
theorem body37 : Tryz.f37.body = some parseCode := by kernel_rfl
end Go.Proofs.YtabfglmpnkgecaaGreatDoor.X

/- Decimal digits as bytes, read back as a number. -/
namespace Go.Proofs.YtabfglmpnkgecaaGreatDoor.X
open Go.RowKit Go.Proofs.YtabfglmpnkgecaaGreatDoorW.PrintWords Go.Proofs.YtabfglmpnkgecaaGreatDoorW.PrintLast Go.Proofs.YtabfglmpnkgecaaGreatDoorW.PrintMore Go.Proofs.YtabfglmpnkgecaaGreatDoor.Q

theorem dig_nat (n : Nat) : (dig n).toNat = 48 + n % 10 := by
  have h : n % 10 < 10 := Nat.mod_lt _ (by omega)
  rw [dig, UInt8.toNat_ofNat']
  omega
theorem decL_all {p : UInt8 → Prop} (hp : ∀ n, p (dig n)) (n : Nat) : ∀ b ∈ decL n, p b := by
  induction n using Nat.strongRecOn with
  | _ n ih =>
    by_cases h : n < 10
    · rw [decL_small h]; intro b hb; rw [List.mem_singleton.1 hb]; exact hp n
    · rw [decL_big h]
      intro b hb
      rcases List.mem_append.1 hb with hb | hb
      · exact ih (n / 10) (by omega) b hb
      · rw [List.mem_singleton.1 hb]; exact hp n
theorem decL_ne (n : Nat) : decL n ≠ [] := by
  by_cases h : n < 10
  · rw [decL_small h]; simp
  · rw [decL_big h]; simp
theorem decL_digit (n : Nat) : ∀ b ∈ decL n, 48 ≤ b.toNat ∧ b.toNat ≤ 57 := decL_all (fun n => by rw [dig_nat]; omega) n
/-- The number that digits spell. -/
def mval (l : List UInt8) : Nat := l.foldl (fun a b => a * 10 + (b.toNat - 48)) 0
theorem mval_snoc (l : List UInt8) (b : UInt8) : mval (l ++ [b]) = mval l * 10 + (b.toNat - 48) := by simp [mval]
theorem mval_dec (n : Nat) : mval (decL n) = n := by
  induction n using Nat.strongRecOn with
  | _ n ih =>
    by_cases h : n < 10
    · rw [decL_small h]
      show 0 * 10 + ((dig n).toNat - 48) = n
      rw [dig_nat]; omega
    · rw [decL_big h, mval_snoc, ih (n / 10) (by omega), dig_nat]
      omega
theorem mval_app : ∀ (r l : List UInt8), mval l ≤ mval (l ++ r)
  | [], l => by rw [List.append_nil]; exact Nat.le_refl _
  | b :: r, l => by
    have h := mval_app r (l ++ [b])
    rw [mval_snoc, List.append_assoc, List.singleton_append] at h
    omega
theorem mval_take (n j : Nat) : mval ((decL n).take j) ≤ n := by
  have h := mval_app ((decL n).drop j) ((decL n).take j)
  rw [List.take_append_drop, mval_dec] at h
  exact h
theorem mval_succ (l : List UInt8) (j : Nat) (h : j < l.length) : mval (l.take (j + 1)) = mval (l.take j) * 10 + ((l.getD j 0).toNat - 48) := by
  rw [List.take_succ_eq_append_getElem h, mval_snoc, List.getD_eq_getElem?_getD, List.getElem?_eq_getElem h]
  rfl
/-- The first digit of a number above 0 is no 0. -/
theorem decL_first (n : Nat) (h : 0 < n) : ((decL n).getD 0 0).toNat ≠ 48 := by
  induction n using Nat.strongRecOn with
  | _ n ih =>
    by_cases c : n < 10
    · rw [decL_small c]
      show (dig n).toNat ≠ 48
      rw [dig_nat]; omega
    · have hne := decL_ne (n / 10)
      have h1 := ih (n / 10) (by omega) (by omega)
      rw [decL_big c]
      cases hd : decL (n / 10) with
      | nil => exact absurd hd hne
      | cons a r => rw [hd] at h1; exact h1
theorem decL_len16 {n : Nat} (h : n ≤ 9007199254740992) : (decL n).length ≤ 16 := decL_len 15 n (by omega)
theorem decL_pos (n : Nat) : 0 < (decL n).length := List.length_pos_iff.2 (decL_ne n)
theorem mval_pos (n j : Nat) (h : 0 < n) (hj : 0 < j) : 0 < mval ((decL n).take j) := by
  have h1 : mval ((decL n).take 1) = mval ((decL n).take 0) * 10 + (((decL n).getD 0 0).toNat - 48) := mval_succ (decL n) 0 (decL_pos n)
  have h0 : mval ((decL n).take 0) = 0 := rfl
  have h2 := decL_first n h
  have h3 := decL_digit n ((decL n).getD 0 0) (by rw [List.getD_eq_getElem?_getD, List.getElem?_eq_getElem (decL_pos n)]; exact List.getElem_mem _)
  have h4 := mval_app (((decL n).take j).drop 1) (((decL n).take j).take 1)
  rw [List.take_append_drop, List.take_take, Nat.min_eq_left (show 1 ≤ j from hj)] at h4
  rw [h0] at h1
  omega
end Go.Proofs.YtabfglmpnkgecaaGreatDoor.X
