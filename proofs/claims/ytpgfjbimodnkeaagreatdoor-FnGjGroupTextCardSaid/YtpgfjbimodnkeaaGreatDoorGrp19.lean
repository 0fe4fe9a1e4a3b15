/- FnGjGroupText: whatever text comes in, the law returns true and the text reads afterwards as before; with the fourteen package-level variables that its row lists as the text of the program lays them (the tied card) (part 19 of 33: lemmas for its last part) -/
import Derived.WalkSpells
import Derived.Deep.RegionWith
import Derived.IntWalk
import Derived.Test.YtpgfjbimodnkeaaGreatDoorGrp2
import Derived.Test.YtpgfjbimodnkeaaGreatDoorGrp10
import Derived.Test.YtpgfjbimodnkeaaGreatDoorGrp16
set_option maxHeartbeats 16000000
set_option maxRecDepth 100000
set_option linter.unusedVariables false
set_option linter.unusedSimpArgs false
namespace Go.Proofs.YtpgfjbimodnkeaaGreatDoor.Q
open Go.RowKit Go.Proofs.YtpgfjbimodnkeaaGreatDoorW.PrintWords Go.Proofs.YtpgfjbimodnkeaaGreatDoorW.PrintLast Go.Proofs.YtpgfjbimodnkeaaGreatDoorW.PrintMore
attribute [local go_sem] dK dJ dZ ed dC dD dN dM
def iV.f (a0_0:Int) (a0_1:ByteArray) (a0_2:ByteArray) (a0_3:Nat) (a0_4:Int) (l0_5:List Int):Option (Bool):=if a0_0=0 then (some ((a0_1.size:Int) != 0)) else (some true)
theorem iV.calls (a0_0:Int) (a0_1:ByteArray) (a0_2:ByteArray) (a0_3:Nat) (a0_4:Int) (A0_5:Option Addr) (c0_5:Nat) (l0_5:List Int) (r:Bool) (w:World) (hr0_5:Kd.C (Kd.int .i64) w A0_5 l0_5.length l0_5) (hc0_5:l0_5.length≤c0_5) (h:iV.f a0_0 a0_1 a0_2 a0_3 a0_4 l0_5=some r) :
 Calls Tryz.prog 59 #[.agg #[.int .i64 a0_0,.string a0_1,.string a0_2,.float .f64 a0_3,.int .i64 a0_4,.slice A0_5 l0_5.length c0_5]] w fun e w'=>e = .returned (.bool r)∧Below w.heap.size w w':=by
 have hu67:=Tryz.underlying67
 have HR0_5:=ae.mk hr0_5
 have HC0_5:=ae.mk hc0_5
 clear hr0_5 hc0_5
 have HB:=ae.mk (Below.refl w.heap.size w)
 have H:(if a0_0=0 then (some ((a0_1.size:Int) != 0)) else (some true))=some r:=h
 clear h
 by_cases c2:a0_0=0
 ·rw [if_pos c2] at H
  have c2b0:(a0_0 == 0)=true:=beq_iff_eq.mpr c2
  have c2b1:(a0_0 != 0)=false:=bne_eq_false_iff_eq.mpr c2
  clear c2
  obtain rfl:=Option.some.inj H
  go_enter Tryz.func59,Tryz.ntmps59
  go_wp2_with (first | ((with_reducible refine iI (N:=1) rfl ?_);(try (refine sJ (by rfl) ?_;dsimp only));refine jy ?hg (N:=1) ?hd (cs:=#[.int .i64 a0_0,.string a0_1,.string a0_2,.float .f64 a0_3,.int .i64 a0_4,.slice A0_5 l0_5.length c0_5]) (t:=67) ?hr ?_;(case hd=>rfl);(case hg=>rfl);(case hr=>first | (go_simp;done) | (go_simp;rfl));intro gb408 hg w3 hbox hb;have n0_:=ae.mk (dB (by repeat (first | (with_reducible first | exact HB.out | apply ai | apply ag | apply au) | exact HB.out)) hb);have n1_:=ae.mk (hbox);have n2_:=ae.mk ((by rw [hg];exact (dh (by repeat (first | (with_reducible first | exact HB.out | apply ai | apply ag | apply au) | exact HB.out))):w.heap.size≤gb408));have n3_:=ae.mk ((by rw [hg];exact (dh (by repeat (first | (with_reducible first | exact HB.out | apply ai | apply ag | apply au) | exact HB.out))):w.heap.size≤gb408));clear HB;have HB:=n0_;have BK408:=n1_;have GW408:=n2_;have GE408:=n3_;clear n0_ n1_ n2_ n3_;clear hb hbox hg;have hcz4_0:w3.cell? ⟨gb408,0,none⟩=some (.int .i64 a0_0):=(ah BK408.out 0).trans rfl;have hcz4_1:w3.cell? ⟨gb408,1,none⟩=some (.string a0_1):=(ah BK408.out 1).trans rfl;have hcz4_2:w3.cell? ⟨gb408,2,none⟩=some (.string a0_2):=(ah BK408.out 2).trans rfl;have hcz4_3:w3.cell? ⟨gb408,3,none⟩=some (.float .f64 a0_3):=(ah BK408.out 3).trans rfl;have hcz4_4:w3.cell? ⟨gb408,4,none⟩=some (.int .i64 a0_4):=(ah BK408.out 4).trans rfl;have hcz4_5:w3.cell? ⟨gb408,5,none⟩=some (.slice A0_5 l0_5.length c0_5):=(ah BK408.out 5).trans rfl;have hfz4_0:=ak BK408.out 0;have hfz4_1:=ak BK408.out 1;have hfz4_2:=ak BK408.out 2;have hfz4_3:=ak BK408.out 3;have hfz4_4:=ak BK408.out 4;have hfz4_5:=ak BK408.out 5))
  go_ret
  exact ⟨by first | rfl | (simp [bz,bC] <;> rfl) | (simp [*,bz,bC] <;> rfl),by repeat (first | (with_reducible first | exact HB.out | apply ai | apply ag | apply au | refine aA ?_ GE408.out) | exact HB.out)⟩
 ·rw [if_neg c2] at H
  have c2b0:(a0_0 == 0)=false:=beq_eq_false_iff_ne.mpr c2
  have c2b1:(a0_0 != 0)=true:=bne_iff_ne.mpr c2
  obtain rfl:=Option.some.inj H
  go_enter Tryz.func59,Tryz.ntmps59
  go_wp2_with (first | ((with_reducible refine iI (N:=1) rfl ?_);(try (refine sJ (by rfl) ?_;dsimp only));refine jy ?hg (N:=1) ?hd (cs:=#[.int .i64 a0_0,.string a0_1,.string a0_2,.float .f64 a0_3,.int .i64 a0_4,.slice A0_5 l0_5.length c0_5]) (t:=67) ?hr ?_;(case hd=>rfl);(case hg=>rfl);(case hr=>first | (go_simp;done) | (go_simp;rfl));intro gb408 hg w5 hbox hb;have n0_:=ae.mk (dB (by repeat (first | (with_reducible first | exact HB.out | apply ai | apply ag | apply au) | exact HB.out)) hb);have n1_:=ae.mk (hbox);have n2_:=ae.mk ((by rw [hg];exact (dh (by repeat (first | (with_reducible first | exact HB.out | apply ai | apply ag | apply au) | exact HB.out))):w.heap.size≤gb408));have n3_:=ae.mk ((by rw [hg];exact (dh (by repeat (first | (with_reducible first | exact HB.out | apply ai | apply ag | apply au) | exact HB.out))):w.heap.size≤gb408));clear HB;have HB:=n0_;have BK408:=n1_;have GW408:=n2_;have GE408:=n3_;clear n0_ n1_ n2_ n3_;clear hb hbox hg;have hcz6_0:w5.cell? ⟨gb408,0,none⟩=some (.int .i64 a0_0):=(ah BK408.out 0).trans rfl;have hcz6_1:w5.cell? ⟨gb408,1,none⟩=some (.string a0_1):=(ah BK408.out 1).trans rfl;have hcz6_2:w5.cell? ⟨gb408,2,none⟩=some (.string a0_2):=(ah BK408.out 2).trans rfl;have hcz6_3:w5.cell? ⟨gb408,3,none⟩=some (.float .f64 a0_3):=(ah BK408.out 3).trans rfl;have hcz6_4:w5.cell? ⟨gb408,4,none⟩=some (.int .i64 a0_4):=(ah BK408.out 4).trans rfl;have hcz6_5:w5.cell? ⟨gb408,5,none⟩=some (.slice A0_5 l0_5.length c0_5):=(ah BK408.out 5).trans rfl;have hfz6_0:=ak BK408.out 0;have hfz6_1:=ak BK408.out 1;have hfz6_2:=ak BK408.out 2;have hfz6_3:=ak BK408.out 3;have hfz6_4:=ak BK408.out 4;have hfz6_5:=ak BK408.out 5))
  go_ret
  exact ⟨by first | rfl | (simp [bz,bC] <;> rfl) | (simp [*,bz,bC] <;> rfl),by repeat (first | (with_reducible first | exact HB.out | apply ai | apply ag | apply au | refine aA ?_ GE408.out) | exact HB.out)⟩
end Go.Proofs.YtpgfjbimodnkeaaGreatDoor.Q
