/- FnGjMap: whatever text comes in, the law returns true and the text reads afterwards as before; with the thirteen package-level variables that its row lists as the program's own text lays them (the tied card) (part 7 of 19: lemmas for its last part) -/
import Derived.WalkMore
import Derived.Test.YtpgfjbimodnkeaaGreatDoorMpd2
import Derived.Test.YtpgfjbimodnkeaaGreatDoorMpd4
import Derived.Test.YtpgfjbimodnkeaaGreatDoorMpd6
set_option maxHeartbeats 16000000
set_option maxRecDepth 100000
set_option linter.unusedVariables false
set_option linter.unusedSimpArgs false
namespace Go.Proofs.YtpgfjbimodnkeaaGreatDoor.Q
open Go.RowKit Go.Proofs.YtpgfjbimodnkeaaGreatDoorW.PrintWords Go.Proofs.YtpgfjbimodnkeaaGreatDoorW.PrintLast Go.Proofs.YtpgfjbimodnkeaaGreatDoorW.PrintMore
attribute [local go_sem] dm di dL dK cu bZ dD dC
def gJ.f (a0:Int):Option (Bool):=if a0=32 then (some true) else (if a0=9 then (some true) else (if a0=10 then (some true) else (some (a0 == 13))))
theorem gJ.calls (a0:Int) (r:Bool) (w:World) (h:gJ.f a0=some r) :
 Calls Tryz.prog 9 #[.int .u8 a0] w fun e w'=>e = .returned (.bool r)∧ai w w':=by
 have H:(if a0=32 then (some true) else (if a0=9 then (some true) else (if a0=10 then (some true) else (some (a0 == 13)))))=some r:=h
 clear h
 by_cases c2:a0=32
 ·rw [if_pos c2] at H
  have c2b0:(a0 == 32)=true:=beq_iff_eq.mpr c2
  have c2b1:(a0 != 32)=false:=bne_eq_false_iff_eq.mpr c2
  clear c2
  obtain rfl:=Option.some.inj H
  go_enter Tryz.func9,Tryz.ntmps9
  go_wp2
  go_ret
  exact ⟨by first | rfl | (simp;done) | (simp [*];done),by repeat (first | exact ai.refl _ | apply ai.step)⟩
 ·rw [if_neg c2] at H
  have c2b0:(a0 == 32)=false:=beq_eq_false_iff_ne.mpr c2
  have c2b1:(a0 != 32)=true:=bne_iff_ne.mpr c2
  by_cases c3:a0=9
  ·rw [if_pos c3] at H
   have c3b0:(a0 == 9)=true:=beq_iff_eq.mpr c3
   have c3b1:(a0 != 9)=false:=bne_eq_false_iff_eq.mpr c3
   clear c3
   obtain rfl:=Option.some.inj H
   go_enter Tryz.func9,Tryz.ntmps9
   go_wp2
   go_ret
   exact ⟨by first | rfl | (simp;done) | (simp [*];done),by repeat (first | exact ai.refl _ | apply ai.step)⟩
  ·rw [if_neg c3] at H
   have c3b0:(a0 == 9)=false:=beq_eq_false_iff_ne.mpr c3
   have c3b1:(a0 != 9)=true:=bne_iff_ne.mpr c3
   by_cases c4:a0=10
   ·rw [if_pos c4] at H
    have c4b0:(a0 == 10)=true:=beq_iff_eq.mpr c4
    have c4b1:(a0 != 10)=false:=bne_eq_false_iff_eq.mpr c4
    clear c4
    obtain rfl:=Option.some.inj H
    go_enter Tryz.func9,Tryz.ntmps9
    go_wp2
    go_ret
    exact ⟨by first | rfl | (simp;done) | (simp [*];done),by repeat (first | exact ai.refl _ | apply ai.step)⟩
   ·rw [if_neg c4] at H
    have c4b0:(a0 == 10)=false:=beq_eq_false_iff_ne.mpr c4
    have c4b1:(a0 != 10)=true:=bne_iff_ne.mpr c4
    obtain rfl:=Option.some.inj H
    go_enter Tryz.func9,Tryz.ntmps9
    go_wp2
    go_ret
    exact ⟨by first | rfl | (simp;done) | (simp [*];done),by repeat (first | exact ai.refl _ | apply ai.step)⟩
end Go.Proofs.YtpgfjbimodnkeaaGreatDoor.Q
