/- FnGjGroupText: whatever text comes in, the law returns true and the text reads afterwards as before; with the fourteen package-level variables that its row lists as the text of the program lays them (the tied card) (part 21 of 33: lemmas for its last part) -/
import Derived.WalkSpells
import Derived.Deep.Cut
import Derived.Test.YtpgfjbimodnkeaaGreatDoorGrp18
import Derived.Test.YtpgfjbimodnkeaaGreatDoorGrp20
set_option maxHeartbeats 16000000
set_option maxRecDepth 100000
set_option linter.unusedVariables false
set_option linter.unusedSimpArgs false
namespace Go.Proofs.YtpgfjbimodnkeaaGreatDoor.Dec
open Go Go.RowKit Go.Proofs.YtpgfjbimodnkeaaGreatDoorW.PrintWords Go.Proofs.YtpgfjbimodnkeaaGreatDoorW.PrintLast Go.Proofs.YtpgfjbimodnkeaaGreatDoorW.PrintMore Go.Proofs.YtpgfjbimodnkeaaGreatDoor.Scan Go.Proofs.YtpgfjbimodnkeaaGreatDoor.Q
theorem yV (w:World) (s:ByteArray) (h0:0 < s.size) (hc:bt s (0:Nat)=123∨bt s (0:Nat)=91) :
 Calls Tryz.prog 44 #[.string s] w fun e w'=>e = .returned (resV 5 s ⟨#[]⟩ 0 0)∧Below w.heap.size w w':=by
 have hx:((s[0]'h0).toNat:Int)=bt s (0:Nat):=cZ s 0 (by simpa using h0)
 have i0:((0:Int) < (s.size:Int))=True:=eq_true (by omega)
 have i0':(0 < s.size)=True:=eq_true h0
 have i1:decide ((0:Int) < (s.size:Int))=true:=decide_eq_true (by omega)
 have s1:((0:Int)≤(s.size:Int))=True:=eq_true (by omega)
 have hall:s.extract 0 s.size=s:=ET s
 generalize bt s (0:Nat)=c at *
 go_enter Tryz.func44,Tryz.ntmps44
 go_wp2_with (fail)
 go_loopg [4] 0 (fun kq v4 W=>v4 = .int .i64 0∧ae (PV w ⟨0,⟨#[]⟩,⟨#[]⟩,0,0⟩ W))
 case atStart=>exact ⟨rfl,⟨ED w⟩⟩
 case round =>
  obtain ⟨rfl,hV⟩:=hrel
  obtain ⟨a0,a1,a2,a3,a4,a5,af⟩:=hV.out.cells
  rcases hc with rfl | rfl
  all_goals
   go_wp2_with (fail)
   have hV3:=(hV.out.set ⟨5,⟨#[]⟩,⟨#[]⟩,0,0⟩ 0 _ rfl).set ⟨5,s,⟨#[]⟩,0,0⟩ 1 _ rfl
   have hex:=wu (⟨5,s,⟨#[]⟩,0,0⟩:Rs) (.inl (by show (5:Int)≠0;decide))
   with_reducible refine (hex _).mono ?_
   rintro e w5 ⟨rfl,hB5⟩
   have hV4:=hV3.below hB5
   clear hB5 hV3 a0 a1 a2 a3 a4 a5 af
   obtain ⟨a0,a1,a2,a3,a4,a5,af⟩:=hV4.cells
   obtain ⟨z0,z1,z2,z3,z4,z5,zf⟩:=hV4.H6
   replace hV4:=ae.mk hV4
   go_wp2_with (fail)
   have hV6:=hV4.out.set { (⟨5,s,⟨#[]⟩,0,0⟩:Rs) with idx:=0 } 4 (.int .i64 0) rfl
   exact bodyPost_ret (results_cell_row rfl _ _ w.heap.size 67 (jg { (⟨5,s,⟨#[]⟩,0,0⟩:Rs) with idx:=0 }) (0,0) _ rfl hV6.put Tryz.underlying67 rfl (by kernel_rfl)) rfl ⟨rfl,hV6.F6 _ _ _ _ _ _⟩
theorem yH (s:ByteArray) (h0:0 < s.size) (b:Bool) (hb:(bt s (0:Nat) == 91)=b) (str:ByteArray) (num:Nat) (idx:Int) (w:World):Calls Tryz.prog 90 #[resV 5 s str num idx] w fun e w'=>e = .returned (.bool b)∧Below w.heap.size w w':=by
 have hx:((s[0]'h0).toNat:Int)=bt s (0:Nat):=cZ s 0 (by simpa using h0)
 have i0:((0:Int) < (s.size:Int))=True:=eq_true (by omega)
 have i0':(0 < s.size)=True:=eq_true h0
 have i1:decide (0 < s.size)=true:=decide_eq_true h0
 generalize bt s (0:Nat)=c at *
 go_enter Tryz.func90,Tryz.ntmps90
 go_wp2
 go_ret
 exact ⟨rfl,ai (Below.refl _ _) _⟩
theorem yF (s:ByteArray) (h0:0 < s.size) (b:Bool) (hb:(bt s (0:Nat) == 123)=b) (str:ByteArray) (num:Nat) (idx:Int) (w:World):Calls Tryz.prog 88 #[resV 5 s str num idx] w fun e w'=>e = .returned (.bool b)∧Below w.heap.size w w':=by
 have hx:((s[0]'h0).toNat:Int)=bt s (0:Nat):=cZ s 0 (by simpa using h0)
 have i0:((0:Int) < (s.size:Int))=True:=eq_true (by omega)
 have i0':(0 < s.size)=True:=eq_true h0
 have i1:decide (0 < s.size)=true:=decide_eq_true h0
 generalize bt s (0:Nat)=c at *
 go_enter Tryz.func88,Tryz.ntmps88
 go_wp2
 go_ret
 exact ⟨rfl,ai (Below.refl _ _) _⟩
end Go.Proofs.YtpgfjbimodnkeaaGreatDoor.Dec
