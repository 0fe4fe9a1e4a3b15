/- FnGjMap: whatever text comes in, the law returns true and the text reads afterwards as before; with the thirteen package-level variables that its row lists as the program's own text lays them (the tied card) (part 10 of 19: lemmas for its last part) -/
import Derived.Test.YtpgfjbimodnkeaaGreatDoorMpd2
import Derived.Test.YtpgfjbimodnkeaaGreatDoorMpd8
set_option maxHeartbeats 16000000
set_option maxRecDepth 100000
set_option linter.unusedVariables false
set_option linter.unusedSimpArgs false
namespace Go.Proofs.YtpgfjbimodnkeaaGreatDoor.Q
open Go.RowKit Go.Proofs.YtpgfjbimodnkeaaGreatDoorW.PrintWords Go.Proofs.YtpgfjbimodnkeaaGreatDoorW.PrintLast Go.Proofs.YtpgfjbimodnkeaaGreatDoorW.PrintMore
attribute [local go_sem] dm di dL dK cu bZ dD dC
mutual
def bF.j0:Nat→ByteArray→Int→Bool→Option (Int × Bool)
 | 0,_,_,_=>none
 | k+1,x0,x1,x27=>if x27=true then (some (0,false)) else (bF.l0 k x0 x1 0 (wrap64 (x1+2)))
def bF.l0:Nat→ByteArray→Int→Int→Int→Option (Int × Bool)
 | 0,_,_,_,_=>none
 | k+1,x0,x1,x6,x7=>if x7 < (wrap64 (x1+6)) then (if 0≤x7 then (if x7 < (x0.size:Int) then ((bM.f k (bt x0 x7)).bind fun bt106=>(if bt106.2=true then (bF.l0 k x0 x1 (wrap64 ((wrap64 (x6*16))+bt106.1)) (wrap64 (x7+1))) else (some (0,false)))) else (none)) else (none)) else (some (x6,true))
end
def bF.f (k:Nat) (a0:ByteArray) (a1:Int):Option (Int × Bool):=if (wrap64 ((a0.size:Int) - a1)) < 6 then (bF.j0 k a0 a1 true) else (if 0≤a1 then (if a1 < (a0.size:Int) then (if (bt a0 a1)=92 then (if 0≤(wrap64 (a1+1)) then (if (wrap64 (a1+1)) < (a0.size:Int) then (bF.j0 k a0 a1 ((bt a0 (wrap64 (a1+1))) != 117)) else (none)) else (none)) else (bF.j0 k a0 a1 true)) else (none)) else (none))
theorem bF.calls (k:Nat) (a0:ByteArray) (a1:Int) (r1:Int) (r2:Bool) (w:World) (h:bF.f k a0 a1=some (r1,r2)) :
 Calls Tryz.prog 49 #[.string a0,.int .i64 a1] w fun e w'=>e = .returned (.tuple #[.int .i64 r1,.bool r2])∧ai w w':=by
 have H:(if (wrap64 ((a0.size:Int) - a1)) < 6 then (bF.j0 k a0 a1 true) else (if 0≤a1 then (if a1 < (a0.size:Int) then (if (bt a0 a1)=92 then (if 0≤(wrap64 (a1+1)) then (if (wrap64 (a1+1)) < (a0.size:Int) then (bF.j0 k a0 a1 ((bt a0 (wrap64 (a1+1))) != 117)) else (none)) else (none)) else (bF.j0 k a0 a1 true)) else (none)) else (none)))=some (r1,r2):=h
 clear h
 have HC3:=ae.mk H
 clear H
 go_enter Tryz.func49,Tryz.ntmps49
 go_upto_region 1 with (fail)
 go_cut [27] (fun v27 wc=>∃ (kq:Nat) (x27_2:Bool),v27 = .bool x27_2∧ae (bF.j0 kq a0 a1 x27_2=some (r1,r2))∧ae (kq≤k)∧ai w wc)
 case first =>
  have H:=HC3.out
  clear HC3
  by_cases c4:(wrap64 ((a0.size:Int) - a1)) < 6
  ·rw [if_pos c4] at H
   have c4b0:decide ((wrap64 ((a0.size:Int) - a1)) < 6)=true:=decide_eq_true c4
   clear c4
   (first | rw [c4b0] | (simp only [bW,cZ];rw [c4b0]) | skip)
   have H':=ae.mk H
   clear H
   go_wp2
   go_meet
   case rel=>exact ⟨_,(true),(by first | rfl | (simp;done) | (simp [*];done)),H',⟨by first | omega | exact Nat.le_refl _⟩,by repeat (first | exact ai.refl _ | apply ai.step)⟩
  ·rw [if_neg c4] at H
   have c4b0:decide ((wrap64 ((a0.size:Int) - a1)) < 6)=false:=decide_eq_false c4
   clear c4
   (first | rw [c4b0] | (simp only [bW,cZ];rw [c4b0]) | skip)
   by_cases c5:0≤a1
   ·rw [if_pos c5] at H
    have c5b0:decide (0≤a1)=true:=decide_eq_true c5
    clear c5
    by_cases c6:a1 < (a0.size:Int)
    ·rw [if_pos c6] at H
     have c6b0:decide (a1 < (a0.size:Int))=true:=decide_eq_true c6
     clear c6
     by_cases c8:(bt a0 a1)=92
     ·rw [if_pos c8] at H
      have c8b0:((bt a0 a1) == 92)=true:=beq_iff_eq.mpr c8
      have c8b1:((bt a0 a1) != 92)=false:=bne_eq_false_iff_eq.mpr c8
      clear c8
      obtain ⟨ji9,hji9⟩:∃ j_:Int,(wrap64 (a1+1))=j_:=⟨_,rfl⟩
      replace H:(if 0≤(ji9) then (if (ji9) < (a0.size:Int) then (bF.j0 k a0 a1 ((bt a0 (ji9)) != 117)) else (none)) else (none))=some (r1,r2):=by first | (rw [hji9] at H;exact H) | (simp only [hji9] at H ⊢;exact H)
      have hji9w:(IntKind.i64.wrap (a1+1))=ji9:=(bW _).trans hji9
      by_cases c10:0≤(ji9)
      ·rw [if_pos c10] at H
       have c10b0:decide (0≤(ji9))=true:=decide_eq_true c10
       clear c10
       by_cases c11:(ji9) < (a0.size:Int)
       ·rw [if_pos c11] at H
        have c11b0:decide ((ji9) < (a0.size:Int))=true:=decide_eq_true c11
        clear c11
        have H':=ae.mk H
        clear H
        have p7:0≤(a1:Int):=of_decide_eq_true (by first | (with_reducible assumption) | assumption)
        have q7:a1 < (a0.size:Int):=of_decide_eq_true (by first | (with_reducible assumption) | assumption)
        have hx7:=dI a0 a1
        replace p7:=eq_true p7
        replace q7:=eq_true q7
        have p12:0≤((ji9):Int):=of_decide_eq_true (by first | (with_reducible assumption) | assumption)
        have q12:(ji9) < (a0.size:Int):=of_decide_eq_true (by first | (with_reducible assumption) | assumption)
        have hx12:=dI a0 (ji9)
        replace p12:=eq_true p12
        replace q12:=eq_true q12
        go_wp2
        go_meet
        case rel=>exact ⟨_,(((bt a0 (ji9)) != 117)),(by first | rfl | (simp;done) | (simp only [← hji9] <;> (first | rfl | simp)) | (simp [*];done)),H',⟨by first | omega | exact Nat.le_refl _⟩,by repeat (first | exact ai.refl _ | apply ai.step)⟩
       ·rw [if_neg c11] at H
        exact absurd H (by simp)
      ·rw [if_neg c10] at H
       exact absurd H (by simp)
     ·rw [if_neg c8] at H
      have c8b0:((bt a0 a1) == 92)=false:=beq_eq_false_iff_ne.mpr c8
      have c8b1:((bt a0 a1) != 92)=true:=bne_iff_ne.mpr c8
      have H':=ae.mk H
      clear H
      have p7:0≤(a1:Int):=of_decide_eq_true (by first | (with_reducible assumption) | assumption)
      have q7:a1 < (a0.size:Int):=of_decide_eq_true (by first | (with_reducible assumption) | assumption)
      have hx7:=dI a0 a1
      replace p7:=eq_true p7
      replace q7:=eq_true q7
      go_wp2
      go_meet
      case rel=>exact ⟨_,(true),(by first | rfl | (simp;done) | (simp [*];done)),H',⟨by first | omega | exact Nat.le_refl _⟩,by repeat (first | exact ai.refl _ | apply ai.step)⟩
    ·rw [if_neg c6] at H
     exact absurd H (by simp)
   ·rw [if_neg c5] at H
    exact absurd H (by simp)
 case rest =>
  clear HC3
  try clear c1
  try clear p1
  try clear q1
  try clear hx1
  try clear p2
  try clear c4
  try clear c4b0
  try clear c5
  try clear c5b0
  try clear c6
  try clear c6b0
  try clear p6
  try clear p7
  try clear q7
  try clear hx7
  try clear c8
  try clear c8b0
  try clear c8b1
  try clear c10
  try clear c10b0
  try clear c11
  try clear c11b0
  try clear p12
  try clear q12
  try clear hx12
  try clear p12
  try clear p7
  try clear q12
  try clear q7
  obtain ⟨kq,x27_2,rfl,HA,HJ2,⟨mc2,rfl⟩⟩:=hcut
  cases kq with
  | zero=>exact absurd HA.out (by simp [bF.j0])
  | succ kj2 =>
    have H:=HA.out
    clear HA
    simp only [bF.j0] at H
    by_cases c13:x27_2=true
    ·subst c13
     have H1:(some (0,false))=some (r1,r2):=by rw [if_pos rfl] at H;exact H
     clear H
     have H:=H1
     clear H1
     simp only [Option.some.injEq,Prod.mk.injEq] at H
     obtain ⟨rfl,rfl⟩:=H
     go_wp2
     go_ret2
     exact ⟨by first | rfl | (simp;done) | (simp [*];done),by repeat (first | exact ai.refl _ | apply ai.step)⟩
    ·replace c13:=Bool.eq_false_iff.mpr c13
     subst c13
     have H1:(bF.l0 kj2 a0 a1 0 (wrap64 (a1+2)))=some (r1,r2):=by rw [if_neg (show ¬ (false=true) by decide)] at H;exact H
     clear H
     have H:=H1
     clear H1
     have H':=ae.mk H
     clear H
     go_wp2
     go_loopg [6,7] kj2 (fun kq v6 v7 w'=>∃ (x6_2:Int) (x7_2:Int),v6 = .int .i64 x6_2∧v7 = .int .i64 x7_2∧ae (bF.l0 kq a0 a1 x6_2 x7_2=some (r1,r2))∧ae (kq≤kj2)∧ai w w')
     case atStart=>exact ⟨(0),(wrap64 (a1+2)),(by first | rfl | (simp;done) | (simp [*];done)),(by first | rfl | (simp;done) | (simp [*];done)),H',⟨Nat.le_refl _⟩,by repeat (first | exact ai.refl _ | apply ai.step)⟩
     case round =>
      clear H'
      try clear c1
      try clear p1
      try clear q1
      try clear hx1
      try clear c2
      try clear p2
      try clear c4
      try clear c4b0
      try clear c5
      try clear c5b0
      try clear c6
      try clear c6b0
      try clear p6
      try clear p7
      try clear q7
      try clear hx7
      try clear c8
      try clear c8b0
      try clear c8b1
      try clear c10
      try clear c10b0
      try clear c11
      try clear c11b0
      try clear p12
      try clear q12
      try clear hx12
      try clear c13
      try clear p1
      try clear p12
      try clear p2
      try clear p6
      try clear p7
      try clear q1
      try clear q12
      try clear q7
      obtain ⟨x6_2,x7_2,rfl,rfl,HA,HK2,⟨m2,rfl⟩⟩:=hrel
      cases gk with
      | zero=>exact absurd HA.out (by simp [bF.l0])
      | succ k2 =>
        have H:=HA.out
        clear HA
        simp only [bF.l0] at H
        by_cases c14:x7_2 < (wrap64 (a1+6))
        ·rw [if_pos c14] at H
         have c14b0:decide (x7_2 < (wrap64 (a1+6)))=true:=decide_eq_true c14
         clear c14
         by_cases c15:0≤x7_2
         ·rw [if_pos c15] at H
          have c15b0:decide (0≤x7_2)=true:=decide_eq_true c15
          clear c15
          by_cases c16:x7_2 < (a0.size:Int)
          ·rw [if_pos c16] at H
           have c16b0:decide (x7_2 < (a0.size:Int))=true:=decide_eq_true c16
           clear c16
           replace H:=Option.bind_eq_some_iff.mp H
           obtain ⟨⟨t106,t107⟩,A180,H⟩:=H
           replace H:(if t107=true then (bF.l0 k2 a0 a1 (wrap64 ((wrap64 (x6_2*16))+t106)) (wrap64 (x7_2+1))) else (some (0,false)))=some (r1,r2):=H
           have A18:=ae.mk A180
           clear A180
           by_cases c19:t107=true
           ·subst c19
            have H1:(bF.l0 k2 a0 a1 (wrap64 ((wrap64 (x6_2*16))+t106)) (wrap64 (x7_2+1)))=some (r1,r2):=by rw [if_pos rfl] at H;exact H
            clear H
            have H:=H1
            clear H1
            have H':=ae.mk H
            clear H
            have p17:0≤(x7_2:Int):=of_decide_eq_true (by first | (with_reducible assumption) | assumption)
            have q17:x7_2 < (a0.size:Int):=of_decide_eq_true (by first | (with_reducible assumption) | assumption)
            have hx17:=dI a0 x7_2
            replace p17:=eq_true p17
            replace q17:=eq_true q17
            go_wp2_with (first | ((with_reducible refine bD (f:=76) rfl ?_);refine dS (some 40) rfl rfl Tryz.func76 (by kernel_rfl) rfl #[.int .u8 (bt a0 x7_2)] rfl (by (try simp only [List.map_toArray,List.map_cons,List.map_nil]);first | done | rfl | (simp only [List.length_drop,List.length_take];rfl)) ?_;(with_reducible refine (bM.calls k2 (bt a0 x7_2) t106 true _ A18.out).mono ?_);rintro e w' ⟨rfl,⟨nd,rfl⟩⟩;refine ⟨_,rfl,?_⟩))
            go_roundg k2
            case measure=>have:=HJ2.out;have:=HK2.out;omega
            case rel=>exact ⟨(wrap64 ((wrap64 (x6_2*16))+t106)),(wrap64 (x7_2+1)),(by first | rfl | (simp;done) | (simp [*];done)),(by first | rfl | (simp;done) | (simp [*];done)),H',⟨by have:=HJ2.out;have:=HK2.out;omega⟩,by repeat (first | exact ai.refl _ | apply ai.step)⟩
           ·replace c19:=Bool.eq_false_iff.mpr c19
            subst c19
            have H1:(some (0,false))=some (r1,r2):=by rw [if_neg (show ¬ (false=true) by decide)] at H;exact H
            clear H
            have H:=H1
            clear H1
            simp only [Option.some.injEq,Prod.mk.injEq] at H
            obtain ⟨rfl,rfl⟩:=H
            have p17:0≤(x7_2:Int):=of_decide_eq_true (by first | (with_reducible assumption) | assumption)
            have q17:x7_2 < (a0.size:Int):=of_decide_eq_true (by first | (with_reducible assumption) | assumption)
            have hx17:=dI a0 x7_2
            replace p17:=eq_true p17
            replace q17:=eq_true q17
            go_wp2_with (first | ((with_reducible refine bD (f:=76) rfl ?_);refine dS (some 40) rfl rfl Tryz.func76 (by kernel_rfl) rfl #[.int .u8 (bt a0 x7_2)] rfl (by (try simp only [List.map_toArray,List.map_cons,List.map_nil]);first | done | rfl | (simp only [List.length_drop,List.length_take];rfl)) ?_;(with_reducible refine (bM.calls k2 (bt a0 x7_2) t106 false _ A18.out).mono ?_);rintro e w' ⟨rfl,⟨nd,rfl⟩⟩;refine ⟨_,rfl,?_⟩))
            go_ret2
            exact ⟨by first | rfl | (simp;done) | (simp [*];done),by repeat (first | exact ai.refl _ | apply ai.step)⟩
          ·rw [if_neg c16] at H
           exact absurd H (by simp)
         ·rw [if_neg c15] at H
          exact absurd H (by simp)
        ·rw [if_neg c14] at H
         have c14b0:decide (x7_2 < (wrap64 (a1+6)))=false:=decide_eq_false c14
         clear c14
         simp only [Option.some.injEq,Prod.mk.injEq] at H
         obtain ⟨rfl,rfl⟩:=H
         go_wp2
         go_ret2
         exact ⟨by first | rfl | (simp;done) | (simp [*];done),by repeat (first | exact ai.refl _ | apply ai.step)⟩
attribute [local go_sem] dm di dL dK cu bZ dD dC
def dM.f (a0:Int):Option (Bool):=if 55296≤a0 then (some (decide (a0≤56319))) else (some false)
theorem dM.calls (a0:Int) (r:Bool) (w:World) (h:dM.f a0=some r) :
 Calls Tryz.prog 50 #[.int .i64 a0] w fun e w'=>e = .returned (.bool r)∧ai w w':=by
 have H:(if 55296≤a0 then (some (decide (a0≤56319))) else (some false))=some r:=h
 clear h
 by_cases c2:55296≤a0
 ·rw [if_pos c2] at H
  have c2b0:decide (55296≤a0)=true:=decide_eq_true c2
  clear c2
  obtain rfl:=Option.some.inj H
  go_enter Tryz.func50,Tryz.ntmps50
  go_wp2
  go_ret
  exact ⟨by first | rfl | (simp;done) | (simp [*];done),by repeat (first | exact ai.refl _ | apply ai.step)⟩
 ·rw [if_neg c2] at H
  have c2b0:decide (55296≤a0)=false:=decide_eq_false c2
  clear c2
  obtain rfl:=Option.some.inj H
  go_enter Tryz.func50,Tryz.ntmps50
  go_wp2
  go_ret
  exact ⟨by first | rfl | (simp;done) | (simp [*];done),by repeat (first | exact ai.refl _ | apply ai.step)⟩
attribute [local go_sem] dm di dL dK cu bZ dD dC
def dA.f (a0:Int):Option (Bool):=if 56320≤a0 then (some (decide (a0≤57343))) else (some false)
theorem dA.calls (a0:Int) (r:Bool) (w:World) (h:dA.f a0=some r) :
 Calls Tryz.prog 51 #[.int .i64 a0] w fun e w'=>e = .returned (.bool r)∧ai w w':=by
 have H:(if 56320≤a0 then (some (decide (a0≤57343))) else (some false))=some r:=h
 clear h
 by_cases c2:56320≤a0
 ·rw [if_pos c2] at H
  have c2b0:decide (56320≤a0)=true:=decide_eq_true c2
  clear c2
  obtain rfl:=Option.some.inj H
  go_enter Tryz.func51,Tryz.ntmps51
  go_wp2
  go_ret
  exact ⟨by first | rfl | (simp;done) | (simp [*];done),by repeat (first | exact ai.refl _ | apply ai.step)⟩
 ·rw [if_neg c2] at H
  have c2b0:decide (56320≤a0)=false:=decide_eq_false c2
  clear c2
  obtain rfl:=Option.some.inj H
  go_enter Tryz.func51,Tryz.ntmps51
  go_wp2
  go_ret
  exact ⟨by first | rfl | (simp;done) | (simp [*];done),by repeat (first | exact ai.refl _ | apply ai.step)⟩
attribute [local go_sem] dm di dL dK cu bZ dD dC
def iM.f (a0:Int):Option (Int):=if a0=98 then (some 8) else (if a0=102 then (some 12) else (if a0=110 then (some 10) else (if a0=114 then (some 13) else (if a0=116 then (some 9) else (some a0)))))
theorem iM.calls (a0:Int) (r:Int) (w:World) (h:iM.f a0=some r) :
 Calls Tryz.prog 63 #[.int .u8 a0] w fun e w'=>e = .returned (.int .u8 r)∧ai w w':=by
 have H:(if a0=98 then (some 8) else (if a0=102 then (some 12) else (if a0=110 then (some 10) else (if a0=114 then (some 13) else (if a0=116 then (some 9) else (some a0))))))=some r:=h
 clear h
 by_cases c2:a0=98
 ·rw [if_pos c2] at H
  have c2b0:(a0 == 98)=true:=beq_iff_eq.mpr c2
  have c2b1:(a0 != 98)=false:=bne_eq_false_iff_eq.mpr c2
  clear c2
  obtain rfl:=Option.some.inj H
  go_enter Tryz.func63,Tryz.ntmps63
  go_wp2
  go_ret
  exact ⟨by first | rfl | (simp;done) | (simp [*];done),by repeat (first | exact ai.refl _ | apply ai.step)⟩
 ·rw [if_neg c2] at H
  have c2b0:(a0 == 98)=false:=beq_eq_false_iff_ne.mpr c2
  have c2b1:(a0 != 98)=true:=bne_iff_ne.mpr c2
  by_cases c3:a0=102
  ·rw [if_pos c3] at H
   have c3b0:(a0 == 102)=true:=beq_iff_eq.mpr c3
   have c3b1:(a0 != 102)=false:=bne_eq_false_iff_eq.mpr c3
   clear c3
   obtain rfl:=Option.some.inj H
   go_enter Tryz.func63,Tryz.ntmps63
   go_wp2
   go_ret
   exact ⟨by first | rfl | (simp;done) | (simp [*];done),by repeat (first | exact ai.refl _ | apply ai.step)⟩
  ·rw [if_neg c3] at H
   have c3b0:(a0 == 102)=false:=beq_eq_false_iff_ne.mpr c3
   have c3b1:(a0 != 102)=true:=bne_iff_ne.mpr c3
   by_cases c4:a0=110
   ·rw [if_pos c4] at H
    have c4b0:(a0 == 110)=true:=beq_iff_eq.mpr c4
    have c4b1:(a0 != 110)=false:=bne_eq_false_iff_eq.mpr c4
    clear c4
    obtain rfl:=Option.some.inj H
    go_enter Tryz.func63,Tryz.ntmps63
    go_wp2
    go_ret
    exact ⟨by first | rfl | (simp;done) | (simp [*];done),by repeat (first | exact ai.refl _ | apply ai.step)⟩
   ·rw [if_neg c4] at H
    have c4b0:(a0 == 110)=false:=beq_eq_false_iff_ne.mpr c4
    have c4b1:(a0 != 110)=true:=bne_iff_ne.mpr c4
    by_cases c5:a0=114
    ·rw [if_pos c5] at H
     have c5b0:(a0 == 114)=true:=beq_iff_eq.mpr c5
     have c5b1:(a0 != 114)=false:=bne_eq_false_iff_eq.mpr c5
     clear c5
     obtain rfl:=Option.some.inj H
     go_enter Tryz.func63,Tryz.ntmps63
     go_wp2
     go_ret
     exact ⟨by first | rfl | (simp;done) | (simp [*];done),by repeat (first | exact ai.refl _ | apply ai.step)⟩
    ·rw [if_neg c5] at H
     have c5b0:(a0 == 114)=false:=beq_eq_false_iff_ne.mpr c5
     have c5b1:(a0 != 114)=true:=bne_iff_ne.mpr c5
     by_cases c6:a0=116
     ·rw [if_pos c6] at H
      have c6b0:(a0 == 116)=true:=beq_iff_eq.mpr c6
      have c6b1:(a0 != 116)=false:=bne_eq_false_iff_eq.mpr c6
      clear c6
      obtain rfl:=Option.some.inj H
      go_enter Tryz.func63,Tryz.ntmps63
      go_wp2
      go_ret
      exact ⟨by first | rfl | (simp;done) | (simp [*];done),by repeat (first | exact ai.refl _ | apply ai.step)⟩
     ·rw [if_neg c6] at H
      have c6b0:(a0 == 116)=false:=beq_eq_false_iff_ne.mpr c6
      have c6b1:(a0 != 116)=true:=bne_iff_ne.mpr c6
      obtain rfl:=Option.some.inj H
      go_enter Tryz.func63,Tryz.ntmps63
      go_wp2
      go_ret
      exact ⟨by first | rfl | (simp;done) | (simp [*];done),by repeat (first | exact ai.refl _ | apply ai.step)⟩
attribute [local go_sem] dm di dL dK cu bZ dD dC
def aN.j0:Nat→List Int→Int→Bool→Option (List Int)
 | 0,_,_,_=>none
 | k+1,x0,x1,x27=>if x27=true then ((some (([239,191,189]:List Int):List Int)).bind fun y309=>(if x0.length+y309.length < 140737488355328 then (some (x0 ++ y309)) else (none))) else (if x1 < 65536 then ((some (([(wrap64 (224+(wrap64 (Int.tdiv x1 4096)))) % 256,(wrap64 (128+(Int.tmod (wrap64 (Int.tdiv x1 64)) 64))) % 256,(wrap64 (128+(Int.tmod x1 64))) % 256]:List Int):List Int)).bind fun y315=>(if x0.length+y315.length < 140737488355328 then (some (x0 ++ y315)) else (none))) else ((some (([(wrap64 (240+(wrap64 (Int.tdiv x1 262144)))) % 256,(wrap64 (128+(Int.tmod (wrap64 (Int.tdiv x1 4096)) 64))) % 256,(wrap64 (128+(Int.tmod (wrap64 (Int.tdiv x1 64)) 64))) % 256,(wrap64 (128+(Int.tmod x1 64))) % 256]:List Int):List Int)).bind fun y321=>(if x0.length+y321.length < 140737488355328 then (some (x0 ++ y321)) else (none))))
def aN.f (k:Nat) (l0:List Int) (a1:Int):Option (List Int):=if a1 < 128 then (if l0.length < 140737488355328 then (some (l0 ++ [(a1) % 256])) else (none)) else (if a1 < 2048 then ((some (([(wrap64 (192+(wrap64 (Int.tdiv a1 64)))) % 256,(wrap64 (128+(Int.tmod a1 64))) % 256]:List Int):List Int)).bind fun y301=>(if l0.length+y301.length < 140737488355328 then (some (l0 ++ y301)) else (none))) else ((dM.f a1).bind fun t307=>(if t307=true then (aN.j0 k l0 a1 true) else ((dA.f a1).bind fun t308=>(aN.j0 k l0 a1 t308)))))
theorem aN.calls (k:Nat) (P0_:Nat→Prop) (u9000_:Value) (l0:List Int) (a1:Int) (r:List Int) (w0 w:World) (hB:Below w0.heap.size w0 w) (ho0:Kd.R (Kd.int .u8) 5 w w0.heap.size P0_ u9000_ l0) (h:aN.f k l0 a1=some r) :
 Calls Tryz.prog 64 #[u9000_,.int .i64 a1] w fun e w'=>∃ v0_:Value,e = .returned (v0_)∧Kd.R (Kd.int .u8) 5 w' w0.heap.size (fun k_=>(P0_ k_∨w.heap.size≤k_)) v0_ r∧Below w0.heap.size w0 w'∧Kept w w' (fun k_=>P0_ k_):=by
 have HO0:=ae.mk (show Kd.R (Kd.int .u8) 5 w w0.heap.size (fun k_=>(P0_ k_∨w.heap.size≤k_)) u9000_ l0 from Kd.dJ ho0 (fun k_ hk=>(.inl hk)))
 have HK:=ae.mk (Kept.refl w (fun k_=>P0_ k_))
 have HW0:=ae.mk hB.size
 have HB:=ae.mk hB
 clear hB
 have H:(if a1 < 128 then (if l0.length < 140737488355328 then (some (l0 ++ [(a1) % 256])) else (none)) else (if a1 < 2048 then ((some (([(wrap64 (192+(wrap64 (Int.tdiv a1 64)))) % 256,(wrap64 (128+(Int.tmod a1 64))) % 256]:List Int):List Int)).bind fun y301=>(if l0.length+y301.length < 140737488355328 then (some (l0 ++ y301)) else (none))) else ((dM.f a1).bind fun t307=>(if t307=true then (aN.j0 k l0 a1 true) else ((dA.f a1).bind fun t308=>(aN.j0 k l0 a1 t308))))))=some r:=h
 clear h
 by_cases c3:a1 < 128
 ·rw [if_pos c3] at H
  have c3b0:decide (a1 < 128)=true:=decide_eq_true c3
  clear c3
  by_cases c4:l0.length < 140737488355328
  ·rw [if_pos c4] at H
   have LMc4:=ae.mk c4
   clear c4
   obtain ⟨y298,hy298⟩:∃ y_:List Int,y_=(l0 ++ [(a1) % 256]):=⟨_,rfl⟩
   replace H:(some y298)=some r:=by first | (rw [hy298];with_reducible exact H) | (have H2_:=(Option.bind_some _ _).symm.trans H;rw [hy298];with_reducible exact H2_) | (have H2_:=(Option.bind_some _ _).symm.trans H;with_reducible exact H2_) | with_reducible exact H | (rw [hy298];exact H) | exact H
   have Ny298:=ae.mk hy298
   clear hy298
   obtain rfl:=Option.some.inj H
   go_enter Tryz.func64,Tryz.ntmps64
   go_wp2_with (first | ((with_reducible refine dH (b:=.append) (xs:=#[.tmp 8,.tmp 11]) rfl ?_);at_builtin;refine Kd.lq (Kd.int .u8) (w0:=w0) w0.heap.size rfl (.tmp 8) (.tmp 11) 99 5 (.int .u8 0) 1 rfl Tryz.underlying99 info5 rfl (by decide) (by omega) u9000_ l0 ((a1) % 256) [.int .u8 ((a1) % 256)] (fun k_=>(P0_ k_∨w.heap.size≤k_)) (fun _=>False) rfl rfl ?aP (fun _ hk=>hk.elim) ?aF ?aO ?aB ?aS ?aL ?_;(case aP=>exact rfl);(case aB=>exact (by repeat (first | (with_reducible first | exact HB.out | apply ah | apply ag | apply aj) | exact HB.out)));(case aF=>exact (fun k_ hk=>(.inr (Nat.le_trans (by first | exact HK.out.1 | exact (show Kept w _ (fun k_=>P0_ k_) from by repeat (first | (with_reducible first | exact HK.out | apply Kept.alloc | apply Kept.drewN | apply Kept.drew) | exact HK.out)).1) hk))));(case aO=>exact (by (with_reducible repeat (first | apply Kd.cO | apply Kd.dh | apply Kd.R_drew));exact HO0.out));(case aS=>exact (bQ (by repeat (first | (with_reducible first | exact HB.out | apply ah | apply ag | apply aj) | exact HB.out))));(case aL=>have:=LMc4.out;omega);intro v299 w5 ho hb hg hat;rw [← Ny298.out] at ho;have n0_:=ae.mk (hb);have n1_:=ae.mk (Kept.jO (S:=(fun k_=>P0_ k_)) hg (by repeat (first | (with_reducible first | exact HK.out | apply Kept.alloc | apply Kept.drewN | apply Kept.drew) | exact HK.out)) (fun k_ e_=>(HO0.out.1 k_ e_)));have n2_:=ae.mk (ho);clear HB;clear HK;clear HO0;have HB:=n0_;have HK:=n1_;have HO300:=n2_;clear n0_ n1_ n2_;clear ho hb hg hat))
   go_ret
   exact ⟨_,by first | rfl | (simp [aZ,bf] <;> rfl) | (simp [*,aZ,bf] <;> rfl),by (with_reducible repeat (first | apply Kd.cO | apply Kd.dh | apply Kd.R_drew));exact HO300.out,by repeat (first | (with_reducible first | exact HB.out | apply ah | apply ag | apply aj) | exact HB.out),by repeat (first | (with_reducible first | exact HK.out | apply Kept.alloc | apply Kept.drewN | apply Kept.drew) | exact HK.out)⟩
  ·rw [if_neg c4] at H
   exact absurd H (by simp)
 ·rw [if_neg c3] at H
  have c3b0:decide (a1 < 128)=false:=decide_eq_false c3
  clear c3
  by_cases c6:a1 < 2048
  ·rw [if_pos c6] at H
   have c6b0:decide (a1 < 2048)=true:=decide_eq_true c6
   clear c6
   obtain ⟨y301,hy301⟩:∃ y_:List Int,y_=(([(wrap64 (192+(wrap64 (Int.tdiv a1 64)))) % 256,(wrap64 (128+(Int.tmod a1 64))) % 256]:List Int)):=⟨_,rfl⟩
   replace H:(if l0.length+y301.length < 140737488355328 then (some (l0 ++ y301)) else (none))=some r:=by first | (rw [hy301];with_reducible exact H) | (have H2_:=(Option.bind_some _ _).symm.trans H;rw [hy301];with_reducible exact H2_) | (have H2_:=(Option.bind_some _ _).symm.trans H;with_reducible exact H2_) | with_reducible exact H | (rw [hy301];exact H) | exact H
   have Ny301:=ae.mk hy301
   clear hy301
   by_cases c7:l0.length+y301.length < 140737488355328
   ·rw [if_pos c7] at H
    have LMc7:=ae.mk c7
    clear c7
    obtain ⟨y304,hy304⟩:∃ y_:List Int,y_=(l0 ++ y301):=⟨_,rfl⟩
    replace H:(some y304)=some r:=by first | (rw [hy304];with_reducible exact H) | (have H2_:=(Option.bind_some _ _).symm.trans H;rw [hy304];with_reducible exact H2_) | (have H2_:=(Option.bind_some _ _).symm.trans H;with_reducible exact H2_) | with_reducible exact H | (rw [hy304];exact H) | exact H
    have Ny304:=ae.mk hy304
    clear hy304
    obtain rfl:=Option.some.inj H
    go_enter Tryz.func64,Tryz.ntmps64
    go_wp2_with (first | ((with_reducible refine gm (N:=25) rfl ?_);refine Kd.wO (Kd.int .u8) _ 5 ?hg (N:=25) ?hd (xs:=([(wrap64 (192+(wrap64 (Int.tdiv a1 64)))) % 256,(wrap64 (128+(Int.tmod a1 64))) % 256]:List Int)) (inner:=[.int .u8 ((wrap64 (192+(wrap64 (Int.tdiv a1 64)))) % 256),.int .u8 ((wrap64 (128+(Int.tmod a1 64))) % 256)]) (ok:=fun _=>True) (okp:=fun _=>True) ?hr ?hp (fun _ hk=>hk) trivial (Below.refl _ _) (Nat.le_refl _) (by simp) ?_;(case hd=>rfl);(case hg=>rfl);(case hr=>first | (go_simp;done) | (go_simp;rfl));(case hp=>exact (gV.one (show Kd.M (Kd.int .u8) _ _ _ ((wrap64 (192+(wrap64 (Int.tdiv a1 64)))) % 256) [.int .u8 ((wrap64 (192+(wrap64 (Int.tdiv a1 64)))) % 256)] from rfl) (gV.one (show Kd.M (Kd.int .u8) _ _ _ ((wrap64 (128+(Int.tmod a1 64))) % 256) [.int .u8 ((wrap64 (128+(Int.tmod a1 64))) % 256)] from rfl) (gV.none _ _))));intro v302 w8 ho9 hb hg_ hnew_;clear hg_ hnew_;(first | rw [← Ny301.out] at ho9 | (simp only [Int.reduceToNat] at ho9;rw [← Ny301.out] at ho9));have n0_:=ae.mk (Kd.oD (by (with_reducible repeat (first | apply Kd.cO | apply Kd.dh | apply Kd.R_drew));exact HO0.out) (Kd.qB ho9) hb);have n1_:=ae.mk (Kd.eP (Kd.ku (Kd.sZ (M:=fun k_=>(P0_ k_∨w.heap.size≤k_)) ho9 (by first | exact HK.out.1 | exact (show Kept w _ (fun k_=>P0_ k_) from by repeat (first | (with_reducible first | exact HK.out | apply Kept.alloc | apply Kept.drewN | apply Kept.drew) | exact HK.out)).1) (fun k_ h_ => .inr h_)) (Kd.lF (by (with_reducible repeat (first | apply Kd.cO | apply Kd.dh | apply Kd.R_drew));exact HO0.out))) (bQ (by repeat (first | (with_reducible first | exact HB.out | apply ah | apply ag | apply aj) | exact HB.out))));have n2_:=ae.mk (Kept.below (S:=(fun k_=>P0_ k_)) (by repeat (first | (with_reducible first | exact HK.out | apply Kept.alloc | apply Kept.drewN | apply Kept.drew) | exact HK.out)) hb);have n3_:=ae.mk (bz (by repeat (first | (with_reducible first | exact HB.out | apply ah | apply ag | apply aj) | exact HB.out)) hb);clear HO0;clear HK;clear HB;have HO0:=n0_;have HO303:=n1_;have HK:=n2_;have HB:=n3_;clear n0_ n1_ n2_ n3_;clear hb ho9;obtain ⟨Ao11,co11,eo11⟩:=Kd.dX HO303.out;subst eo11) | ((with_reducible refine dH (b:=.append) (xs:=#[.tmp 16,.tmp 25]) rfl ?_);at_builtin;refine Kd.jV (Kd.int .u8) (w0:=w0) w0.heap.size rfl (.tmp 16) (.tmp 25) 99 5 (.int .u8 0) 1 rfl Tryz.underlying99 info5 rfl (by decide) (by omega) u9000_ l0 y301 _ _ _ (fun k_=>(P0_ k_∨w.heap.size≤k_)∧some k_≠(.slice Ao11 y301.length co11:Value).ownBlock) (fun _=>False) rfl rfl ?aO ?aR (fun _ _ h=>h) (fun _ h=>h.elim) ?aF ?aB ?aS ?aL ?_;(case aR=>repeat (first | exact (Kd.jY HO303.out).2.2 | (with_reducible refine Kd.C_alloc ?_ _) | (with_reducible refine Kd.C_drewN ?_ _) | (with_reducible refine Kd.C_drew ?_)));(case aB=>exact (by repeat (first | (with_reducible first | exact HB.out | apply ah | apply ag | apply aj) | exact HB.out)));(case aF=>exact (fun k_ hk=>⟨(.inr (Nat.le_trans (by first | exact HK.out.1 | exact (show Kept w _ (fun k_=>P0_ k_) from by repeat (first | (with_reducible first | exact HK.out | apply Kept.alloc | apply Kept.drewN | apply Kept.drew) | exact HK.out)).1) hk)),Kd.fresh' (Kd.lF (by (with_reducible repeat (first | apply Kd.cO | apply Kd.dh | apply Kd.R_drew));exact HO303.out)) k_ hk⟩));(case aO=>exact (by (with_reducible repeat (first | apply Kd.cO | apply Kd.dh | apply Kd.R_drew));exact HO0.out));(case aS=>exact (bQ (by repeat (first | (with_reducible first | exact HB.out | apply ah | apply ag | apply aj) | exact HB.out))));(case aL=>have:=LMc7.out;omega);intro v305 w10 ho hb hg hat;rw [← Ny304.out] at ho;have n0_:=ae.mk (Kd.mG (ok:=(fun k_=>(P0_ k_∨w.heap.size≤k_))) (by (with_reducible repeat (first | apply Kd.cO | apply Kd.dh | apply Kd.R_drew));exact Kd.dJ HO303.out (fun _ hk=>⟨hk.1.1,hk.2⟩)) hg hat);have n1_:=ae.mk (hb);have n2_:=ae.mk (Kept.jO (S:=(fun k_=>P0_ k_)) hg (by repeat (first | (with_reducible first | exact HK.out | apply Kept.alloc | apply Kept.drewN | apply Kept.drew) | exact HK.out)) (fun k_ e_=>(HO0.out.1 k_ e_).1));have n3_:=ae.mk (ho);clear HO303;clear HB;clear HK;clear HO0;have HO303:=n0_;have HB:=n1_;have HK:=n2_;have HO306:=n3_;clear n0_ n1_ n2_ n3_;clear ho hb hg hat))
    go_ret
    exact ⟨_,by first | rfl | (simp [aZ,bf] <;> rfl) | (simp [*,aZ,bf] <;> rfl),by (with_reducible repeat (first | apply Kd.cO | apply Kd.dh | apply Kd.R_drew));exact Kd.dJ HO306.out (fun _ hk=>hk.1),by repeat (first | (with_reducible first | exact HB.out | apply ah | apply ag | apply aj) | exact HB.out),by repeat (first | (with_reducible first | exact HK.out | apply Kept.alloc | apply Kept.drewN | apply Kept.drew) | exact HK.out)⟩
   ·rw [if_neg c7] at H
    exact absurd H (by simp)
  ·rw [if_neg c6] at H
   have c6b0:decide (a1 < 2048)=false:=decide_eq_false c6
   clear c6
   have HC12:=ae.mk H
   clear H
   go_enter Tryz.func64,Tryz.ntmps64
   go_upto_region 5 with (fail)
   go_cut [27] (fun v27 wc=>∃ (kq:Nat) (x27_11:Bool),v27 = .bool x27_11∧ae (aN.j0 kq l0 a1 x27_11=some r)∧ae (kq≤k)∧ae (Kd.R (Kd.int .u8) 5 wc w0.heap.size (fun k_=>(P0_ k_∨w.heap.size≤k_)) u9000_ l0)∧ae (Kept w wc (fun k_=>P0_ k_))∧ae (Below w0.heap.size w0 wc))
   case first =>
    have H:=HC12.out
    clear HC12
    replace H:=Option.bind_eq_some_iff.mp H
    obtain ⟨t307,A130,H⟩:=H
    replace H:(if t307=true then (aN.j0 k l0 a1 true) else ((dA.f a1).bind fun t308=>(aN.j0 k l0 a1 t308)))=some r:=H
    have A13:=ae.mk A130
    clear A130
    by_cases c14:t307=true
    ·subst c14
     have H1:(aN.j0 k l0 a1 true)=some r:=by rw [if_pos rfl] at H;exact H
     clear H
     have H:=H1
     clear H1
     have H':=ae.mk H
     clear H
     go_wp2_with (first | ((with_reducible refine bD (f:=50) rfl ?_);refine dS (some 29) rfl rfl Tryz.func50 (by kernel_rfl) rfl #[.int .i64 a1] rfl (by (try simp only [List.map_toArray,List.map_cons,List.map_nil]);first | done | rfl | (simp only [List.length_drop,List.length_take];rfl)) ?_;(with_reducible refine (dM.calls a1 true _ A13.out).mono ?_);rintro e w' ⟨rfl,⟨nd,rfl⟩⟩;refine ⟨_,rfl,?_⟩))
     go_meet
     case rel=>exact ⟨_,(true),(by first | rfl | (simp;done) | (simp [*];done)),H',⟨by first | omega | exact Nat.le_refl _⟩,⟨by (with_reducible repeat (first | apply Kd.cO | apply Kd.dh | apply Kd.R_drew));exact HO0.out⟩,⟨by repeat (first | (with_reducible first | exact HK.out | apply Kept.alloc | apply Kept.drewN | apply Kept.drew) | exact HK.out)⟩,⟨by repeat (first | (with_reducible first | exact HB.out | apply ah | apply ag | apply aj) | exact HB.out)⟩⟩
    ·replace c14:=Bool.eq_false_iff.mpr c14
     subst c14
     have H1:((dA.f a1).bind fun t308=>(aN.j0 k l0 a1 t308))=some r:=by rw [if_neg (show ¬ (false=true) by decide)] at H;exact H
     clear H
     have H:=H1
     clear H1
     replace H:=Option.bind_eq_some_iff.mp H
     obtain ⟨t308,A150,H⟩:=H
     replace H:(aN.j0 k l0 a1 t308)=some r:=H
     have A15:=ae.mk A150
     clear A150
     have H':=ae.mk H
     clear H
     go_wp2_with (first | ((with_reducible refine bD (f:=50) rfl ?_);refine dS (some 29) rfl rfl Tryz.func50 (by kernel_rfl) rfl #[.int .i64 a1] rfl (by (try simp only [List.map_toArray,List.map_cons,List.map_nil]);first | done | rfl | (simp only [List.length_drop,List.length_take];rfl)) ?_;(with_reducible refine (dM.calls a1 false _ A13.out).mono ?_);rintro e w' ⟨rfl,⟨nd,rfl⟩⟩;refine ⟨_,rfl,?_⟩) | (go_at_call 51;(with_reducible refine (dA.calls a1 t308 _ A15.out).mono ?_);rintro e w' ⟨rfl,⟨nd,rfl⟩⟩))
     go_meet
     case rel=>exact ⟨_,(t308),(by first | rfl | (simp;done) | (simp [*];done)),H',⟨by first | omega | exact Nat.le_refl _⟩,⟨by (with_reducible repeat (first | apply Kd.cO | apply Kd.dh | apply Kd.R_drew));exact HO0.out⟩,⟨by repeat (first | (with_reducible first | exact HK.out | apply Kept.alloc | apply Kept.drewN | apply Kept.drew) | exact HK.out)⟩,⟨by repeat (first | (with_reducible first | exact HB.out | apply ah | apply ag | apply aj) | exact HB.out)⟩⟩
   case rest =>
    clear HC12
    try clear c1
    try clear p2
    try clear c3
    try clear c3b0
    try clear c4
    try clear c5
    try clear c6
    try clear c6b0
    try clear p6
    try clear c7
    try clear c14
    obtain ⟨kq,x27_11,rfl,HA,HJ11,HO_0,HK,HB⟩:=hcut
    cases kq with
    | zero=>exact absurd HA.out (by simp [aN.j0])
    | succ kj11 =>
      have H:=HA.out
      clear HA
      simp only [aN.j0] at H
      by_cases c16:x27_11=true
      ·subst c16
       have H1:((some (([239,191,189]:List Int):List Int)).bind fun y309=>(if l0.length+y309.length < 140737488355328 then (some (l0 ++ y309)) else (none)))=some r:=by rw [if_pos rfl] at H;exact H
       clear H
       have H:=H1
       clear H1
       obtain ⟨y309,hy309⟩:∃ y_:List Int,y_=(([239,191,189]:List Int)):=⟨_,rfl⟩
       replace H:(if l0.length+y309.length < 140737488355328 then (some (l0 ++ y309)) else (none))=some r:=by first | (rw [hy309];with_reducible exact H) | (have H2_:=(Option.bind_some _ _).symm.trans H;rw [hy309];with_reducible exact H2_) | (have H2_:=(Option.bind_some _ _).symm.trans H;with_reducible exact H2_) | with_reducible exact H | (rw [hy309];exact H) | exact H
       have Ny309:=ae.mk hy309
       clear hy309
       by_cases c17:l0.length+y309.length < 140737488355328
       ·rw [if_pos c17] at H
        have LMc17:=ae.mk c17
        clear c17
        obtain ⟨y312,hy312⟩:∃ y_:List Int,y_=(l0 ++ y309):=⟨_,rfl⟩
        replace H:(some y312)=some r:=by first | (rw [hy312];with_reducible exact H) | (have H2_:=(Option.bind_some _ _).symm.trans H;rw [hy312];with_reducible exact H2_) | (have H2_:=(Option.bind_some _ _).symm.trans H;with_reducible exact H2_) | with_reducible exact H | (rw [hy312];exact H) | exact H
        have Ny312:=ae.mk hy312
        clear hy312
        obtain rfl:=Option.some.inj H
        go_wp2_with (first | ((with_reducible refine gm (N:=35) rfl ?_);refine Kd.wO (Kd.int .u8) _ 5 ?hg (N:=35) ?hd (xs:=([239,191,189]:List Int)) (inner:=[.int .u8 239,.int .u8 191,.int .u8 189]) (ok:=fun _=>True) (okp:=fun _=>True) ?hr ?hp (fun _ hk=>hk) trivial (Below.refl _ _) (Nat.le_refl _) (by simp) ?_;(case hd=>rfl);(case hg=>rfl);(case hr=>first | (go_simp;done) | (go_simp;rfl));(case hp=>exact (gV.one (show Kd.M (Kd.int .u8) _ _ _ 239 [.int .u8 239] from rfl) (gV.one (show Kd.M (Kd.int .u8) _ _ _ 191 [.int .u8 191] from rfl) (gV.one (show Kd.M (Kd.int .u8) _ _ _ 189 [.int .u8 189] from rfl) (gV.none _ _)))));intro v310 w18 ho19 hb hg_ hnew_;clear hg_ hnew_;(first | rw [← Ny309.out] at ho19 | (simp only [Int.reduceToNat] at ho19;rw [← Ny309.out] at ho19));have n0_:=ae.mk (Kd.oD (by (with_reducible repeat (first | apply Kd.cO | apply Kd.dh | apply Kd.R_drew));exact HO_0.out) (Kd.qB ho19) hb);have n1_:=ae.mk (Kd.eP (Kd.ku (Kd.sZ (M:=fun k_=>(P0_ k_∨w.heap.size≤k_)) ho19 (by first | exact HK.out.1 | exact (show Kept w _ (fun k_=>P0_ k_) from by repeat (first | (with_reducible first | exact HK.out | apply Kept.alloc | apply Kept.drewN | apply Kept.drew) | exact HK.out)).1) (fun k_ h_ => .inr h_)) (Kd.lF (by (with_reducible repeat (first | apply Kd.cO | apply Kd.dh | apply Kd.R_drew));exact HO_0.out))) (bQ (by repeat (first | (with_reducible first | exact HB.out | apply ah | apply ag | apply aj) | exact HB.out))));have n2_:=ae.mk (Kept.below (S:=(fun k_=>P0_ k_)) (by repeat (first | (with_reducible first | exact HK.out | apply Kept.alloc | apply Kept.drewN | apply Kept.drew) | exact HK.out)) hb);have n3_:=ae.mk (bz (by repeat (first | (with_reducible first | exact HB.out | apply ah | apply ag | apply aj) | exact HB.out)) hb);clear HO_0;clear HK;clear HB;have HO_0:=n0_;have HO311:=n1_;have HK:=n2_;have HB:=n3_;clear n0_ n1_ n2_ n3_;clear hb ho19;obtain ⟨Ao21,co21,eo21⟩:=Kd.dX HO311.out;subst eo21) | ((with_reducible refine dH (b:=.append) (xs:=#[.tmp 34,.tmp 35]) rfl ?_);at_builtin;refine Kd.jV (Kd.int .u8) (w0:=w0) w0.heap.size rfl (.tmp 34) (.tmp 35) 99 5 (.int .u8 0) 1 rfl Tryz.underlying99 info5 rfl (by decide) (by omega) u9000_ l0 y309 _ _ _ (fun k_=>(P0_ k_∨w.heap.size≤k_)∧some k_≠(.slice Ao21 y309.length co21:Value).ownBlock) (fun _=>False) rfl rfl ?aO ?aR (fun _ _ h=>h) (fun _ h=>h.elim) ?aF ?aB ?aS ?aL ?_;(case aR=>repeat (first | exact (Kd.jY HO311.out).2.2 | (with_reducible refine Kd.C_alloc ?_ _) | (with_reducible refine Kd.C_drewN ?_ _) | (with_reducible refine Kd.C_drew ?_)));(case aB=>exact (by repeat (first | (with_reducible first | exact HB.out | apply ah | apply ag | apply aj) | exact HB.out)));(case aF=>exact (fun k_ hk=>⟨(.inr (Nat.le_trans (by first | exact HK.out.1 | exact (show Kept w _ (fun k_=>P0_ k_) from by repeat (first | (with_reducible first | exact HK.out | apply Kept.alloc | apply Kept.drewN | apply Kept.drew) | exact HK.out)).1) hk)),Kd.fresh' (Kd.lF (by (with_reducible repeat (first | apply Kd.cO | apply Kd.dh | apply Kd.R_drew));exact HO311.out)) k_ hk⟩));(case aO=>exact (by (with_reducible repeat (first | apply Kd.cO | apply Kd.dh | apply Kd.R_drew));exact HO_0.out));(case aS=>exact (bQ (by repeat (first | (with_reducible first | exact HB.out | apply ah | apply ag | apply aj) | exact HB.out))));(case aL=>have:=LMc17.out;omega);intro v313 w20 ho hb hg hat;rw [← Ny312.out] at ho;have n0_:=ae.mk (Kd.mG (ok:=(fun k_=>(P0_ k_∨w.heap.size≤k_))) (by (with_reducible repeat (first | apply Kd.cO | apply Kd.dh | apply Kd.R_drew));exact Kd.dJ HO311.out (fun _ hk=>⟨hk.1.1,hk.2⟩)) hg hat);have n1_:=ae.mk (hb);have n2_:=ae.mk (Kept.jO (S:=(fun k_=>P0_ k_)) hg (by repeat (first | (with_reducible first | exact HK.out | apply Kept.alloc | apply Kept.drewN | apply Kept.drew) | exact HK.out)) (fun k_ e_=>(HO_0.out.1 k_ e_).1));have n3_:=ae.mk (ho);clear HO311;clear HB;clear HK;clear HO_0;have HO311:=n0_;have HB:=n1_;have HK:=n2_;have HO314:=n3_;clear n0_ n1_ n2_ n3_;clear ho hb hg hat))
        go_ret
        exact ⟨_,by first | rfl | (simp [aZ,bf] <;> rfl) | (simp [*,aZ,bf] <;> rfl),by (with_reducible repeat (first | apply Kd.cO | apply Kd.dh | apply Kd.R_drew));exact Kd.dJ HO314.out (fun _ hk=>hk.1),by repeat (first | (with_reducible first | exact HB.out | apply ah | apply ag | apply aj) | exact HB.out),by repeat (first | (with_reducible first | exact HK.out | apply Kept.alloc | apply Kept.drewN | apply Kept.drew) | exact HK.out)⟩
       ·rw [if_neg c17] at H
        exact absurd H (by simp)
      ·replace c16:=Bool.eq_false_iff.mpr c16
       subst c16
       have H1:(if a1 < 65536 then ((some (([(wrap64 (224+(wrap64 (Int.tdiv a1 4096)))) % 256,(wrap64 (128+(Int.tmod (wrap64 (Int.tdiv a1 64)) 64))) % 256,(wrap64 (128+(Int.tmod a1 64))) % 256]:List Int):List Int)).bind fun y315=>(if l0.length+y315.length < 140737488355328 then (some (l0 ++ y315)) else (none))) else ((some (([(wrap64 (240+(wrap64 (Int.tdiv a1 262144)))) % 256,(wrap64 (128+(Int.tmod (wrap64 (Int.tdiv a1 4096)) 64))) % 256,(wrap64 (128+(Int.tmod (wrap64 (Int.tdiv a1 64)) 64))) % 256,(wrap64 (128+(Int.tmod a1 64))) % 256]:List Int):List Int)).bind fun y321=>(if l0.length+y321.length < 140737488355328 then (some (l0 ++ y321)) else (none))))=some r:=by rw [if_neg (show ¬ (false=true) by decide)] at H;exact H
       clear H
       have H:=H1
       clear H1
       by_cases c22:a1 < 65536
       ·rw [if_pos c22] at H
        have c22b0:decide (a1 < 65536)=true:=decide_eq_true c22
        clear c22
        obtain ⟨y315,hy315⟩:∃ y_:List Int,y_=(([(wrap64 (224+(wrap64 (Int.tdiv a1 4096)))) % 256,(wrap64 (128+(Int.tmod (wrap64 (Int.tdiv a1 64)) 64))) % 256,(wrap64 (128+(Int.tmod a1 64))) % 256]:List Int)):=⟨_,rfl⟩
        replace H:(if l0.length+y315.length < 140737488355328 then (some (l0 ++ y315)) else (none))=some r:=by first | (rw [hy315];with_reducible exact H) | (have H2_:=(Option.bind_some _ _).symm.trans H;rw [hy315];with_reducible exact H2_) | (have H2_:=(Option.bind_some _ _).symm.trans H;with_reducible exact H2_) | with_reducible exact H | (rw [hy315];exact H) | exact H
        have Ny315:=ae.mk hy315
        clear hy315
        by_cases c23:l0.length+y315.length < 140737488355328
        ·rw [if_pos c23] at H
         have LMc23:=ae.mk c23
         clear c23
         obtain ⟨y318,hy318⟩:∃ y_:List Int,y_=(l0 ++ y315):=⟨_,rfl⟩
         replace H:(some y318)=some r:=by first | (rw [hy318];with_reducible exact H) | (have H2_:=(Option.bind_some _ _).symm.trans H;rw [hy318];with_reducible exact H2_) | (have H2_:=(Option.bind_some _ _).symm.trans H;with_reducible exact H2_) | with_reducible exact H | (rw [hy318];exact H) | exact H
         have Ny318:=ae.mk hy318
         clear hy318
         obtain rfl:=Option.some.inj H
         go_wp2_with (first | ((with_reducible refine gm (N:=54) rfl ?_);refine Kd.wO (Kd.int .u8) _ 5 ?hg (N:=54) ?hd (xs:=([(wrap64 (224+(wrap64 (Int.tdiv a1 4096)))) % 256,(wrap64 (128+(Int.tmod (wrap64 (Int.tdiv a1 64)) 64))) % 256,(wrap64 (128+(Int.tmod a1 64))) % 256]:List Int)) (inner:=[.int .u8 ((wrap64 (224+(wrap64 (Int.tdiv a1 4096)))) % 256),.int .u8 ((wrap64 (128+(Int.tmod (wrap64 (Int.tdiv a1 64)) 64))) % 256),.int .u8 ((wrap64 (128+(Int.tmod a1 64))) % 256)]) (ok:=fun _=>True) (okp:=fun _=>True) ?hr ?hp (fun _ hk=>hk) trivial (Below.refl _ _) (Nat.le_refl _) (by simp) ?_;(case hd=>rfl);(case hg=>rfl);(case hr=>first | (go_simp;done) | (go_simp;rfl));(case hp=>exact (gV.one (show Kd.M (Kd.int .u8) _ _ _ ((wrap64 (224+(wrap64 (Int.tdiv a1 4096)))) % 256) [.int .u8 ((wrap64 (224+(wrap64 (Int.tdiv a1 4096)))) % 256)] from rfl) (gV.one (show Kd.M (Kd.int .u8) _ _ _ ((wrap64 (128+(Int.tmod (wrap64 (Int.tdiv a1 64)) 64))) % 256) [.int .u8 ((wrap64 (128+(Int.tmod (wrap64 (Int.tdiv a1 64)) 64))) % 256)] from rfl) (gV.one (show Kd.M (Kd.int .u8) _ _ _ ((wrap64 (128+(Int.tmod a1 64))) % 256) [.int .u8 ((wrap64 (128+(Int.tmod a1 64))) % 256)] from rfl) (gV.none _ _)))));intro v316 w24 ho25 hb hg_ hnew_;clear hg_ hnew_;(first | rw [← Ny315.out] at ho25 | (simp only [Int.reduceToNat] at ho25;rw [← Ny315.out] at ho25));have n0_:=ae.mk (Kd.oD (by (with_reducible repeat (first | apply Kd.cO | apply Kd.dh | apply Kd.R_drew));exact HO_0.out) (Kd.qB ho25) hb);have n1_:=ae.mk (Kd.eP (Kd.ku (Kd.sZ (M:=fun k_=>(P0_ k_∨w.heap.size≤k_)) ho25 (by first | exact HK.out.1 | exact (show Kept w _ (fun k_=>P0_ k_) from by repeat (first | (with_reducible first | exact HK.out | apply Kept.alloc | apply Kept.drewN | apply Kept.drew) | exact HK.out)).1) (fun k_ h_ => .inr h_)) (Kd.lF (by (with_reducible repeat (first | apply Kd.cO | apply Kd.dh | apply Kd.R_drew));exact HO_0.out))) (bQ (by repeat (first | (with_reducible first | exact HB.out | apply ah | apply ag | apply aj) | exact HB.out))));have n2_:=ae.mk (Kept.below (S:=(fun k_=>P0_ k_)) (by repeat (first | (with_reducible first | exact HK.out | apply Kept.alloc | apply Kept.drewN | apply Kept.drew) | exact HK.out)) hb);have n3_:=ae.mk (bz (by repeat (first | (with_reducible first | exact HB.out | apply ah | apply ag | apply aj) | exact HB.out)) hb);clear HO_0;clear HK;clear HB;have HO_0:=n0_;have HO317:=n1_;have HK:=n2_;have HB:=n3_;clear n0_ n1_ n2_ n3_;clear hb ho25;obtain ⟨Ao27,co27,eo27⟩:=Kd.dX HO317.out;subst eo27) | ((with_reducible refine dH (b:=.append) (xs:=#[.tmp 40,.tmp 54]) rfl ?_);at_builtin;refine Kd.jV (Kd.int .u8) (w0:=w0) w0.heap.size rfl (.tmp 40) (.tmp 54) 99 5 (.int .u8 0) 1 rfl Tryz.underlying99 info5 rfl (by decide) (by omega) u9000_ l0 y315 _ _ _ (fun k_=>(P0_ k_∨w.heap.size≤k_)∧some k_≠(.slice Ao27 y315.length co27:Value).ownBlock) (fun _=>False) rfl rfl ?aO ?aR (fun _ _ h=>h) (fun _ h=>h.elim) ?aF ?aB ?aS ?aL ?_;(case aR=>repeat (first | exact (Kd.jY HO317.out).2.2 | (with_reducible refine Kd.C_alloc ?_ _) | (with_reducible refine Kd.C_drewN ?_ _) | (with_reducible refine Kd.C_drew ?_)));(case aB=>exact (by repeat (first | (with_reducible first | exact HB.out | apply ah | apply ag | apply aj) | exact HB.out)));(case aF=>exact (fun k_ hk=>⟨(.inr (Nat.le_trans (by first | exact HK.out.1 | exact (show Kept w _ (fun k_=>P0_ k_) from by repeat (first | (with_reducible first | exact HK.out | apply Kept.alloc | apply Kept.drewN | apply Kept.drew) | exact HK.out)).1) hk)),Kd.fresh' (Kd.lF (by (with_reducible repeat (first | apply Kd.cO | apply Kd.dh | apply Kd.R_drew));exact HO317.out)) k_ hk⟩));(case aO=>exact (by (with_reducible repeat (first | apply Kd.cO | apply Kd.dh | apply Kd.R_drew));exact HO_0.out));(case aS=>exact (bQ (by repeat (first | (with_reducible first | exact HB.out | apply ah | apply ag | apply aj) | exact HB.out))));(case aL=>have:=LMc23.out;omega);intro v319 w26 ho hb hg hat;rw [← Ny318.out] at ho;have n0_:=ae.mk (Kd.mG (ok:=(fun k_=>(P0_ k_∨w.heap.size≤k_))) (by (with_reducible repeat (first | apply Kd.cO | apply Kd.dh | apply Kd.R_drew));exact Kd.dJ HO317.out (fun _ hk=>⟨hk.1.1,hk.2⟩)) hg hat);have n1_:=ae.mk (hb);have n2_:=ae.mk (Kept.jO (S:=(fun k_=>P0_ k_)) hg (by repeat (first | (with_reducible first | exact HK.out | apply Kept.alloc | apply Kept.drewN | apply Kept.drew) | exact HK.out)) (fun k_ e_=>(HO_0.out.1 k_ e_).1));have n3_:=ae.mk (ho);clear HO317;clear HB;clear HK;clear HO_0;have HO317:=n0_;have HB:=n1_;have HK:=n2_;have HO320:=n3_;clear n0_ n1_ n2_ n3_;clear ho hb hg hat))
         go_ret
         exact ⟨_,by first | rfl | (simp [aZ,bf] <;> rfl) | (simp [*,aZ,bf] <;> rfl),by (with_reducible repeat (first | apply Kd.cO | apply Kd.dh | apply Kd.R_drew));exact Kd.dJ HO320.out (fun _ hk=>hk.1),by repeat (first | (with_reducible first | exact HB.out | apply ah | apply ag | apply aj) | exact HB.out),by repeat (first | (with_reducible first | exact HK.out | apply Kept.alloc | apply Kept.drewN | apply Kept.drew) | exact HK.out)⟩
        ·rw [if_neg c23] at H
         exact absurd H (by simp)
       ·rw [if_neg c22] at H
        have c22b0:decide (a1 < 65536)=false:=decide_eq_false c22
        clear c22
        obtain ⟨y321,hy321⟩:∃ y_:List Int,y_=(([(wrap64 (240+(wrap64 (Int.tdiv a1 262144)))) % 256,(wrap64 (128+(Int.tmod (wrap64 (Int.tdiv a1 4096)) 64))) % 256,(wrap64 (128+(Int.tmod (wrap64 (Int.tdiv a1 64)) 64))) % 256,(wrap64 (128+(Int.tmod a1 64))) % 256]:List Int)):=⟨_,rfl⟩
        replace H:(if l0.length+y321.length < 140737488355328 then (some (l0 ++ y321)) else (none))=some r:=by first | (rw [hy321];with_reducible exact H) | (have H2_:=(Option.bind_some _ _).symm.trans H;rw [hy321];with_reducible exact H2_) | (have H2_:=(Option.bind_some _ _).symm.trans H;with_reducible exact H2_) | with_reducible exact H | (rw [hy321];exact H) | exact H
        have Ny321:=ae.mk hy321
        clear hy321
        by_cases c28:l0.length+y321.length < 140737488355328
        ·rw [if_pos c28] at H
         have LMc28:=ae.mk c28
         clear c28
         obtain ⟨y324,hy324⟩:∃ y_:List Int,y_=(l0 ++ y321):=⟨_,rfl⟩
         replace H:(some y324)=some r:=by first | (rw [hy324];with_reducible exact H) | (have H2_:=(Option.bind_some _ _).symm.trans H;rw [hy324];with_reducible exact H2_) | (have H2_:=(Option.bind_some _ _).symm.trans H;with_reducible exact H2_) | with_reducible exact H | (rw [hy324];exact H) | exact H
         have Ny324:=ae.mk hy324
         clear hy324
         obtain rfl:=Option.some.inj H
         go_wp2_with (first | ((with_reducible refine gm (N:=75) rfl ?_);refine Kd.wO (Kd.int .u8) _ 5 ?hg (N:=75) ?hd (xs:=([(wrap64 (240+(wrap64 (Int.tdiv a1 262144)))) % 256,(wrap64 (128+(Int.tmod (wrap64 (Int.tdiv a1 4096)) 64))) % 256,(wrap64 (128+(Int.tmod (wrap64 (Int.tdiv a1 64)) 64))) % 256,(wrap64 (128+(Int.tmod a1 64))) % 256]:List Int)) (inner:=[.int .u8 ((wrap64 (240+(wrap64 (Int.tdiv a1 262144)))) % 256),.int .u8 ((wrap64 (128+(Int.tmod (wrap64 (Int.tdiv a1 4096)) 64))) % 256),.int .u8 ((wrap64 (128+(Int.tmod (wrap64 (Int.tdiv a1 64)) 64))) % 256),.int .u8 ((wrap64 (128+(Int.tmod a1 64))) % 256)]) (ok:=fun _=>True) (okp:=fun _=>True) ?hr ?hp (fun _ hk=>hk) trivial (Below.refl _ _) (Nat.le_refl _) (by simp) ?_;(case hd=>rfl);(case hg=>rfl);(case hr=>first | (go_simp;done) | (go_simp;rfl));(case hp=>exact (gV.one (show Kd.M (Kd.int .u8) _ _ _ ((wrap64 (240+(wrap64 (Int.tdiv a1 262144)))) % 256) [.int .u8 ((wrap64 (240+(wrap64 (Int.tdiv a1 262144)))) % 256)] from rfl) (gV.one (show Kd.M (Kd.int .u8) _ _ _ ((wrap64 (128+(Int.tmod (wrap64 (Int.tdiv a1 4096)) 64))) % 256) [.int .u8 ((wrap64 (128+(Int.tmod (wrap64 (Int.tdiv a1 4096)) 64))) % 256)] from rfl) (gV.one (show Kd.M (Kd.int .u8) _ _ _ ((wrap64 (128+(Int.tmod (wrap64 (Int.tdiv a1 64)) 64))) % 256) [.int .u8 ((wrap64 (128+(Int.tmod (wrap64 (Int.tdiv a1 64)) 64))) % 256)] from rfl) (gV.one (show Kd.M (Kd.int .u8) _ _ _ ((wrap64 (128+(Int.tmod a1 64))) % 256) [.int .u8 ((wrap64 (128+(Int.tmod a1 64))) % 256)] from rfl) (gV.none _ _))))));intro v322 w29 ho30 hb hg_ hnew_;clear hg_ hnew_;(first | rw [← Ny321.out] at ho30 | (simp only [Int.reduceToNat] at ho30;rw [← Ny321.out] at ho30));have n0_:=ae.mk (Kd.oD (by (with_reducible repeat (first | apply Kd.cO | apply Kd.dh | apply Kd.R_drew));exact HO_0.out) (Kd.qB ho30) hb);have n1_:=ae.mk (Kd.eP (Kd.ku (Kd.sZ (M:=fun k_=>(P0_ k_∨w.heap.size≤k_)) ho30 (by first | exact HK.out.1 | exact (show Kept w _ (fun k_=>P0_ k_) from by repeat (first | (with_reducible first | exact HK.out | apply Kept.alloc | apply Kept.drewN | apply Kept.drew) | exact HK.out)).1) (fun k_ h_ => .inr h_)) (Kd.lF (by (with_reducible repeat (first | apply Kd.cO | apply Kd.dh | apply Kd.R_drew));exact HO_0.out))) (bQ (by repeat (first | (with_reducible first | exact HB.out | apply ah | apply ag | apply aj) | exact HB.out))));have n2_:=ae.mk (Kept.below (S:=(fun k_=>P0_ k_)) (by repeat (first | (with_reducible first | exact HK.out | apply Kept.alloc | apply Kept.drewN | apply Kept.drew) | exact HK.out)) hb);have n3_:=ae.mk (bz (by repeat (first | (with_reducible first | exact HB.out | apply ah | apply ag | apply aj) | exact HB.out)) hb);clear HO_0;clear HK;clear HB;have HO_0:=n0_;have HO323:=n1_;have HK:=n2_;have HB:=n3_;clear n0_ n1_ n2_ n3_;clear hb ho30;obtain ⟨Ao32,co32,eo32⟩:=Kd.dX HO323.out;subst eo32) | ((with_reducible refine dH (b:=.append) (xs:=#[.tmp 56,.tmp 75]) rfl ?_);at_builtin;refine Kd.jV (Kd.int .u8) (w0:=w0) w0.heap.size rfl (.tmp 56) (.tmp 75) 99 5 (.int .u8 0) 1 rfl Tryz.underlying99 info5 rfl (by decide) (by omega) u9000_ l0 y321 _ _ _ (fun k_=>(P0_ k_∨w.heap.size≤k_)∧some k_≠(.slice Ao32 y321.length co32:Value).ownBlock) (fun _=>False) rfl rfl ?aO ?aR (fun _ _ h=>h) (fun _ h=>h.elim) ?aF ?aB ?aS ?aL ?_;(case aR=>repeat (first | exact (Kd.jY HO323.out).2.2 | (with_reducible refine Kd.C_alloc ?_ _) | (with_reducible refine Kd.C_drewN ?_ _) | (with_reducible refine Kd.C_drew ?_)));(case aB=>exact (by repeat (first | (with_reducible first | exact HB.out | apply ah | apply ag | apply aj) | exact HB.out)));(case aF=>exact (fun k_ hk=>⟨(.inr (Nat.le_trans (by first | exact HK.out.1 | exact (show Kept w _ (fun k_=>P0_ k_) from by repeat (first | (with_reducible first | exact HK.out | apply Kept.alloc | apply Kept.drewN | apply Kept.drew) | exact HK.out)).1) hk)),Kd.fresh' (Kd.lF (by (with_reducible repeat (first | apply Kd.cO | apply Kd.dh | apply Kd.R_drew));exact HO323.out)) k_ hk⟩));(case aO=>exact (by (with_reducible repeat (first | apply Kd.cO | apply Kd.dh | apply Kd.R_drew));exact HO_0.out));(case aS=>exact (bQ (by repeat (first | (with_reducible first | exact HB.out | apply ah | apply ag | apply aj) | exact HB.out))));(case aL=>have:=LMc28.out;omega);intro v325 w31 ho hb hg hat;rw [← Ny324.out] at ho;have n0_:=ae.mk (Kd.mG (ok:=(fun k_=>(P0_ k_∨w.heap.size≤k_))) (by (with_reducible repeat (first | apply Kd.cO | apply Kd.dh | apply Kd.R_drew));exact Kd.dJ HO323.out (fun _ hk=>⟨hk.1.1,hk.2⟩)) hg hat);have n1_:=ae.mk (hb);have n2_:=ae.mk (Kept.jO (S:=(fun k_=>P0_ k_)) hg (by repeat (first | (with_reducible first | exact HK.out | apply Kept.alloc | apply Kept.drewN | apply Kept.drew) | exact HK.out)) (fun k_ e_=>(HO_0.out.1 k_ e_).1));have n3_:=ae.mk (ho);clear HO323;clear HB;clear HK;clear HO_0;have HO323:=n0_;have HB:=n1_;have HK:=n2_;have HO326:=n3_;clear n0_ n1_ n2_ n3_;clear ho hb hg hat))
         go_ret
         exact ⟨_,by first | rfl | (simp [aZ,bf] <;> rfl) | (simp [*,aZ,bf] <;> rfl),by (with_reducible repeat (first | apply Kd.cO | apply Kd.dh | apply Kd.R_drew));exact Kd.dJ HO326.out (fun _ hk=>hk.1),by repeat (first | (with_reducible first | exact HB.out | apply ah | apply ag | apply aj) | exact HB.out),by repeat (first | (with_reducible first | exact HK.out | apply Kept.alloc | apply Kept.drewN | apply Kept.drew) | exact HK.out)⟩
        ·rw [if_neg c28] at H
         exact absurd H (by simp)
attribute [local go_sem] dm di dL dK cu bZ dD dC
def aU.l0:Nat→List Int→ByteArray→Int→Option (ByteArray)
 | 0,_,_,_=>none
 | k+1,x3,x4,x5=>if x5 < (x4.size:Int) then (if 0≤x5 then (if (bt x4 x5)=92 then ((bF.f k x4 x5).bind fun bt330=>(if bt330.2=true then ((bF.f k x4 (wrap64 (x5+6))).bind fun bt336=>(if bt336.2=true then ((dM.f bt330.1).bind fun t338=>(if t338=true then ((dA.f bt336.1).bind fun t339=>(if t339=true then ((aN.f k x3 (wrap64 ((wrap64 (65536+(wrap64 ((wrap64 (bt330.1 - 55296))*1024))))+(wrap64 (bt336.1 - 56320))))).bind fun t340=>(aU.l0 k t340 x4 (wrap64 ((wrap64 (x5+6))+6)))) else ((aN.f k x3 bt330.1).bind fun t343=>(aU.l0 k t343 x4 (wrap64 (x5+6)))))) else ((aN.f k x3 bt330.1).bind fun t346=>(aU.l0 k t346 x4 (wrap64 (x5+6)))))) else ((aN.f k x3 bt330.1).bind fun t349=>(aU.l0 k t349 x4 (wrap64 (x5+6)))))) else (if 0≤(wrap64 (x5+1)) then (if (wrap64 (x5+1)) < (x4.size:Int) then ((iM.f (bt x4 (wrap64 (x5+1)))).bind fun t332=>(if x3.length < 140737488355328 then (aU.l0 k (x3 ++ [t332]) x4 (wrap64 (x5+2))) else (none))) else (none)) else (none)))) else (if x3.length < 140737488355328 then (aU.l0 k (x3 ++ [bt x4 x5]) x4 (wrap64 (x5+1))) else (none))) else (none)) else (some (strOfNums x3))
def aU.f (k:Nat) (a0:ByteArray):Option (ByteArray):=if 1≤(wrap64 ((a0.size:Int) - 1)) then (if (wrap64 ((a0.size:Int) - 1))≤(a0.size:Int) then (aU.l0 k ([]:List Int) (a0.extract 1 ((wrap64 ((a0.size:Int) - 1)):Int).toNat) 0) else (none)) else (none)
theorem aU.calls (k:Nat) (a0:ByteArray) (r:ByteArray) (w:World) (h:aU.f k a0=some r) :
 Calls Tryz.prog 36 #[.string a0] w fun e w'=>e = .returned (.string r)∧Below w.heap.size w w':=by
 have HB:=ae.mk (Below.refl w.heap.size w)
 have H:(if 1≤(wrap64 ((a0.size:Int) - 1)) then (if (wrap64 ((a0.size:Int) - 1))≤(a0.size:Int) then (aU.l0 k ([]:List Int) (a0.extract 1 ((wrap64 ((a0.size:Int) - 1)):Int).toNat) 0) else (none)) else (none))=some r:=h
 clear h
 by_cases c2:1≤(wrap64 ((a0.size:Int) - 1))
 ·rw [if_pos c2] at H
  have c2b0:=eq_true c2
  have c2b1:decide (1≤(wrap64 ((a0.size:Int) - 1)))=true:=decide_eq_true c2
  clear c2
  by_cases c3:(wrap64 ((a0.size:Int) - 1))≤(a0.size:Int)
  ·rw [if_pos c3] at H
   have c3b0:=eq_true c3
   have c3b1:decide ((wrap64 ((a0.size:Int) - 1))≤(a0.size:Int))=true:=decide_eq_true c3
   clear c3
   have H':=ae.mk H
   clear H
   go_enter Tryz.func36,Tryz.ntmps36
   go_wp2
   go_loopg [3,5] k (fun kq v3 v5 w'=>∃ (x3_1:List Int) (x5_1:Int),v5 = .int .i64 x5_1∧ae (aU.l0 kq x3_1 (a0.extract 1 ((wrap64 ((a0.size:Int) - 1)):Int).toNat) x5_1=some r)∧ae (kq≤k)∧ae (Kd.R (Kd.int .u8) 5 w' w.heap.size (fun _=>True) v3 x3_1)∧ae (Below w.heap.size w w'))
   case atStart=>exact ⟨(([]:List Int)),(0),(by first | rfl | (simp;done) | (simp [*];done)),H',⟨Nat.le_refl _⟩,⟨by first | exact Kd.iZ _ _ _ _ _ | exact Kd.N_nil _ _ _ _ _ | exact Kd.V_nil _ _ _ _ _ | exact Kd.Q_nil _ _ _ _ _ | exact Kd.S_nil _ _ _ _ _⟩,⟨by repeat (first | (with_reducible first | exact HB.out | apply ah | apply ag | apply aj) | exact HB.out)⟩⟩
   case round =>
    clear H'
    try clear c2
    try clear c2b0
    try clear c2b1
    try clear p2
    try clear c3
    try clear c3b0
    try clear c3b1
    obtain ⟨x3_1,x5_1,rfl,HA,HK1,HO_3,HB⟩:=hrel
    cases gk with
    | zero=>exact absurd HA.out (by simp [aU.l0])
    | succ k1 =>
      have H:=HA.out
      clear HA
      simp only [aU.l0] at H
      by_cases c4:x5_1 < ((a0.extract 1 ((wrap64 ((a0.size:Int) - 1)):Int).toNat).size:Int)
      ·rw [if_pos c4] at H
       have c4b0:decide (x5_1 < ((a0.extract 1 ((wrap64 ((a0.size:Int) - 1)):Int).toNat).size:Int))=true:=decide_eq_true c4
       have c4b0e:=c4b0
       (try simp only [ByteArray.size_extract] at c4b0e)
       (try have c4b0q:=eq_true (of_decide_eq_true c4b0e))
       clear c4
       by_cases c5:0≤x5_1
       ·rw [if_pos c5] at H
        have c5b0:decide (0≤x5_1)=true:=decide_eq_true c5
        clear c5
        by_cases c7:(bt (a0.extract 1 ((wrap64 ((a0.size:Int) - 1)):Int).toNat) x5_1)=92
        ·rw [if_pos c7] at H
         have c7b0:((bt (a0.extract 1 ((wrap64 ((a0.size:Int) - 1)):Int).toNat) x5_1) == 92)=true:=beq_iff_eq.mpr c7
         have c7b0e:=c7b0
         (try simp only [ByteArray.size_extract] at c7b0e)
         (try have c7b0q:=eq_true (of_decide_eq_true c7b0e))
         have c7b1:((bt (a0.extract 1 ((wrap64 ((a0.size:Int) - 1)):Int).toNat) x5_1) != 92)=false:=bne_eq_false_iff_eq.mpr c7
         have c7b1e:=c7b1
         (try simp only [ByteArray.size_extract] at c7b1e)
         (try have c7b1q:=eq_true (of_decide_eq_true c7b1e))
         clear c7
         replace H:=Option.bind_eq_some_iff.mp H
         obtain ⟨⟨t330,t331⟩,A80,H⟩:=H
         replace H:(if t331=true then ((bF.f k1 (a0.extract 1 ((wrap64 ((a0.size:Int) - 1)):Int).toNat) (wrap64 (x5_1+6))).bind fun bt336=>(if bt336.2=true then ((dM.f t330).bind fun t338=>(if t338=true then ((dA.f bt336.1).bind fun t339=>(if t339=true then ((aN.f k1 x3_1 (wrap64 ((wrap64 (65536+(wrap64 ((wrap64 (t330 - 55296))*1024))))+(wrap64 (bt336.1 - 56320))))).bind fun t340=>(aU.l0 k1 t340 (a0.extract 1 ((wrap64 ((a0.size:Int) - 1)):Int).toNat) (wrap64 ((wrap64 (x5_1+6))+6)))) else ((aN.f k1 x3_1 t330).bind fun t343=>(aU.l0 k1 t343 (a0.extract 1 ((wrap64 ((a0.size:Int) - 1)):Int).toNat) (wrap64 (x5_1+6)))))) else ((aN.f k1 x3_1 t330).bind fun t346=>(aU.l0 k1 t346 (a0.extract 1 ((wrap64 ((a0.size:Int) - 1)):Int).toNat) (wrap64 (x5_1+6)))))) else ((aN.f k1 x3_1 t330).bind fun t349=>(aU.l0 k1 t349 (a0.extract 1 ((wrap64 ((a0.size:Int) - 1)):Int).toNat) (wrap64 (x5_1+6)))))) else (if 0≤(wrap64 (x5_1+1)) then (if (wrap64 (x5_1+1)) < ((a0.extract 1 ((wrap64 ((a0.size:Int) - 1)):Int).toNat).size:Int) then ((iM.f (bt (a0.extract 1 ((wrap64 ((a0.size:Int) - 1)):Int).toNat) (wrap64 (x5_1+1)))).bind fun t332=>(if x3_1.length < 140737488355328 then (aU.l0 k1 (x3_1 ++ [t332]) (a0.extract 1 ((wrap64 ((a0.size:Int) - 1)):Int).toNat) (wrap64 (x5_1+2))) else (none))) else (none)) else (none)))=some r:=H
         have A8:=ae.mk A80
         clear A80
         by_cases c9:t331=true
         ·subst c9
          have H1:((bF.f k1 (a0.extract 1 ((wrap64 ((a0.size:Int) - 1)):Int).toNat) (wrap64 (x5_1+6))).bind fun bt336=>(if bt336.2=true then ((dM.f t330).bind fun t338=>(if t338=true then ((dA.f bt336.1).bind fun t339=>(if t339=true then ((aN.f k1 x3_1 (wrap64 ((wrap64 (65536+(wrap64 ((wrap64 (t330 - 55296))*1024))))+(wrap64 (bt336.1 - 56320))))).bind fun t340=>(aU.l0 k1 t340 (a0.extract 1 ((wrap64 ((a0.size:Int) - 1)):Int).toNat) (wrap64 ((wrap64 (x5_1+6))+6)))) else ((aN.f k1 x3_1 t330).bind fun t343=>(aU.l0 k1 t343 (a0.extract 1 ((wrap64 ((a0.size:Int) - 1)):Int).toNat) (wrap64 (x5_1+6)))))) else ((aN.f k1 x3_1 t330).bind fun t346=>(aU.l0 k1 t346 (a0.extract 1 ((wrap64 ((a0.size:Int) - 1)):Int).toNat) (wrap64 (x5_1+6)))))) else ((aN.f k1 x3_1 t330).bind fun t349=>(aU.l0 k1 t349 (a0.extract 1 ((wrap64 ((a0.size:Int) - 1)):Int).toNat) (wrap64 (x5_1+6))))))=some r:=by rw [if_pos rfl] at H;exact H
          clear H
          have H:=H1
          clear H1
          replace H:=Option.bind_eq_some_iff.mp H
          obtain ⟨⟨t336,t337⟩,A100,H⟩:=H
          replace H:(if t337=true then ((dM.f t330).bind fun t338=>(if t338=true then ((dA.f t336).bind fun t339=>(if t339=true then ((aN.f k1 x3_1 (wrap64 ((wrap64 (65536+(wrap64 ((wrap64 (t330 - 55296))*1024))))+(wrap64 (t336 - 56320))))).bind fun t340=>(aU.l0 k1 t340 (a0.extract 1 ((wrap64 ((a0.size:Int) - 1)):Int).toNat) (wrap64 ((wrap64 (x5_1+6))+6)))) else ((aN.f k1 x3_1 t330).bind fun t343=>(aU.l0 k1 t343 (a0.extract 1 ((wrap64 ((a0.size:Int) - 1)):Int).toNat) (wrap64 (x5_1+6)))))) else ((aN.f k1 x3_1 t330).bind fun t346=>(aU.l0 k1 t346 (a0.extract 1 ((wrap64 ((a0.size:Int) - 1)):Int).toNat) (wrap64 (x5_1+6)))))) else ((aN.f k1 x3_1 t330).bind fun t349=>(aU.l0 k1 t349 (a0.extract 1 ((wrap64 ((a0.size:Int) - 1)):Int).toNat) (wrap64 (x5_1+6)))))=some r:=H
          have A10:=ae.mk A100
          clear A100
          by_cases c11:t337=true
          ·subst c11
           have H1:((dM.f t330).bind fun t338=>(if t338=true then ((dA.f t336).bind fun t339=>(if t339=true then ((aN.f k1 x3_1 (wrap64 ((wrap64 (65536+(wrap64 ((wrap64 (t330 - 55296))*1024))))+(wrap64 (t336 - 56320))))).bind fun t340=>(aU.l0 k1 t340 (a0.extract 1 ((wrap64 ((a0.size:Int) - 1)):Int).toNat) (wrap64 ((wrap64 (x5_1+6))+6)))) else ((aN.f k1 x3_1 t330).bind fun t343=>(aU.l0 k1 t343 (a0.extract 1 ((wrap64 ((a0.size:Int) - 1)):Int).toNat) (wrap64 (x5_1+6)))))) else ((aN.f k1 x3_1 t330).bind fun t346=>(aU.l0 k1 t346 (a0.extract 1 ((wrap64 ((a0.size:Int) - 1)):Int).toNat) (wrap64 (x5_1+6))))))=some r:=by rw [if_pos rfl] at H;exact H
           clear H
           have H:=H1
           clear H1
           replace H:=Option.bind_eq_some_iff.mp H
           obtain ⟨t338,A120,H⟩:=H
           replace H:(if t338=true then ((dA.f t336).bind fun t339=>(if t339=true then ((aN.f k1 x3_1 (wrap64 ((wrap64 (65536+(wrap64 ((wrap64 (t330 - 55296))*1024))))+(wrap64 (t336 - 56320))))).bind fun t340=>(aU.l0 k1 t340 (a0.extract 1 ((wrap64 ((a0.size:Int) - 1)):Int).toNat) (wrap64 ((wrap64 (x5_1+6))+6)))) else ((aN.f k1 x3_1 t330).bind fun t343=>(aU.l0 k1 t343 (a0.extract 1 ((wrap64 ((a0.size:Int) - 1)):Int).toNat) (wrap64 (x5_1+6)))))) else ((aN.f k1 x3_1 t330).bind fun t346=>(aU.l0 k1 t346 (a0.extract 1 ((wrap64 ((a0.size:Int) - 1)):Int).toNat) (wrap64 (x5_1+6)))))=some r:=H
           have A12:=ae.mk A120
           clear A120
           by_cases c13:t338=true
           ·subst c13
            have H1:((dA.f t336).bind fun t339=>(if t339=true then ((aN.f k1 x3_1 (wrap64 ((wrap64 (65536+(wrap64 ((wrap64 (t330 - 55296))*1024))))+(wrap64 (t336 - 56320))))).bind fun t340=>(aU.l0 k1 t340 (a0.extract 1 ((wrap64 ((a0.size:Int) - 1)):Int).toNat) (wrap64 ((wrap64 (x5_1+6))+6)))) else ((aN.f k1 x3_1 t330).bind fun t343=>(aU.l0 k1 t343 (a0.extract 1 ((wrap64 ((a0.size:Int) - 1)):Int).toNat) (wrap64 (x5_1+6))))))=some r:=by rw [if_pos rfl] at H;exact H
            clear H
            have H:=H1
            clear H1
            replace H:=Option.bind_eq_some_iff.mp H
            obtain ⟨t339,A140,H⟩:=H
            replace H:(if t339=true then ((aN.f k1 x3_1 (wrap64 ((wrap64 (65536+(wrap64 ((wrap64 (t330 - 55296))*1024))))+(wrap64 (t336 - 56320))))).bind fun t340=>(aU.l0 k1 t340 (a0.extract 1 ((wrap64 ((a0.size:Int) - 1)):Int).toNat) (wrap64 ((wrap64 (x5_1+6))+6)))) else ((aN.f k1 x3_1 t330).bind fun t343=>(aU.l0 k1 t343 (a0.extract 1 ((wrap64 ((a0.size:Int) - 1)):Int).toNat) (wrap64 (x5_1+6)))))=some r:=H
            have A14:=ae.mk A140
            clear A140
            by_cases c15:t339=true
            ·subst c15
             have H1:((aN.f k1 x3_1 (wrap64 ((wrap64 (65536+(wrap64 ((wrap64 (t330 - 55296))*1024))))+(wrap64 (t336 - 56320))))).bind fun t340=>(aU.l0 k1 t340 (a0.extract 1 ((wrap64 ((a0.size:Int) - 1)):Int).toNat) (wrap64 ((wrap64 (x5_1+6))+6))))=some r:=by rw [if_pos rfl] at H;exact H
             clear H
             have H:=H1
             clear H1
             replace H:=Option.bind_eq_some_iff.mp H
             obtain ⟨t340,A160,H⟩:=H
             replace H:(aU.l0 k1 t340 (a0.extract 1 ((wrap64 ((a0.size:Int) - 1)):Int).toNat) (wrap64 ((wrap64 (x5_1+6))+6)))=some r:=H
             have A16:=ae.mk A160
             clear A160
             have H':=ae.mk H
             clear H
             have p6:0≤(x5_1:Int):=of_decide_eq_true (by first | (with_reducible assumption) | assumption)
             have q6:x5_1 < ((a0.extract 1 ((wrap64 ((a0.size:Int) - 1)):Int).toNat).size:Int):=of_decide_eq_true (by first | (with_reducible assumption) | assumption)
             have hx6:=dI (a0.extract 1 ((wrap64 ((a0.size:Int) - 1)):Int).toNat) x5_1
             replace p6:=eq_true p6
             replace q6:=eq_true q6
             (try (have q6e:=of_eq_true q6;simp only [ByteArray.size_extract] at q6e;replace q6e:=eq_true q6e))
             go_wp2_with (first | ((with_reducible refine bD (f:=49) rfl ?_);refine dS (some 34) rfl rfl Tryz.func49 (by kernel_rfl) rfl #[.string (a0.extract 1 ((wrap64 ((a0.size:Int) - 1)):Int).toNat),.int .i64 x5_1] rfl (by (try simp only [List.map_toArray,List.map_cons,List.map_nil]);first | done | rfl | (simp only [List.length_drop,List.length_take];rfl)) ?_;(with_reducible refine (bF.calls k1 (a0.extract 1 ((wrap64 ((a0.size:Int) - 1)):Int).toNat) x5_1 t330 true _ A8.out).mono ?_);rintro e w' ⟨rfl,⟨nd,rfl⟩⟩;refine ⟨_,rfl,?_⟩) | ((with_reducible refine bD (f:=49) rfl ?_);refine dS (some 54) rfl rfl Tryz.func49 (by kernel_rfl) rfl #[.string (a0.extract 1 ((wrap64 ((a0.size:Int) - 1)):Int).toNat),.int .i64 (wrap64 (x5_1+6))] rfl (by (try simp only [List.map_toArray,List.map_cons,List.map_nil]);first | done | rfl | (simp only [List.length_drop,List.length_take];rfl)) ?_;(with_reducible refine (bF.calls k1 (a0.extract 1 ((wrap64 ((a0.size:Int) - 1)):Int).toNat) (wrap64 (x5_1+6)) t336 true _ A10.out).mono ?_);rintro e w' ⟨rfl,⟨nd,rfl⟩⟩;refine ⟨_,rfl,?_⟩) | (go_at_call 50;(with_reducible refine (dM.calls t330 true _ A12.out).mono ?_);rintro e w' ⟨rfl,⟨nd,rfl⟩⟩) | (go_at_call 51;(with_reducible refine (dA.calls t336 true _ A14.out).mono ?_);rintro e w' ⟨rfl,⟨nd,rfl⟩⟩;obtain ⟨Ao17,co17,eo17⟩:=Kd.dX HO_3.out;subst eo17) | ((with_reducible refine bD (f:=64) rfl ?_);refine dS (some 77) rfl rfl Tryz.func64 (by kernel_rfl) rfl #[.slice Ao17 x3_1.length co17,.int .i64 (wrap64 ((wrap64 (65536+(wrap64 ((wrap64 (t330 - 55296))*1024))))+(wrap64 (t336 - 56320))))] rfl (by (try simp only [List.map_toArray,List.map_cons,List.map_nil]);first | done | rfl | (simp only [List.length_drop,List.length_take];rfl)) ?_;(with_reducible refine (aN.calls k1 (fun k_=>some k_=(.slice Ao17 x3_1.length co17:Value).ownBlock) (.slice Ao17 x3_1.length co17) x3_1 (wrap64 ((wrap64 (65536+(wrap64 ((wrap64 (t330 - 55296))*1024))))+(wrap64 (t336 - 56320)))) t340 w _ ?side1 ?side2 A16.out).mono ?_);(case side1=>repeat (first | (with_reducible first | exact HB.out | apply ah | apply ag | apply aj) | exact HB.out));(case side2=>exact Kd.pU rfl HO_3.out);rintro e w18 ⟨v341,rfl,ho0,hb,hkp⟩;refine ⟨_,rfl,?_⟩;have n0_:=ae.mk (Kd.dJ (ok':=fun k_=>True) ho0 (fun k_ hk_=>trivial));have n1_:=ae.mk (hb);clear HB;clear HO_3;have HO342:=n0_;have HB:=n1_;clear n0_ n1_;(try clear hb);(try clear hkp);(try clear ho0)))
             go_roundg k1
             case measure=>have:=HK1.out;omega
             case rel=>exact ⟨(t340),(wrap64 ((wrap64 (x5_1+6))+6)),(by first | rfl | (simp;done) | (simp [*];done)),H',⟨by have:=HK1.out;omega⟩,⟨by (with_reducible repeat (first | apply Kd.cO | apply Kd.dh | apply Kd.R_drew));exact HO342.out⟩,⟨by repeat (first | (with_reducible first | exact HB.out | apply ah | apply ag | apply aj) | exact HB.out)⟩⟩
            ·replace c15:=Bool.eq_false_iff.mpr c15
             subst c15
             have H1:((aN.f k1 x3_1 t330).bind fun t343=>(aU.l0 k1 t343 (a0.extract 1 ((wrap64 ((a0.size:Int) - 1)):Int).toNat) (wrap64 (x5_1+6))))=some r:=by rw [if_neg (show ¬ (false=true) by decide)] at H;exact H
             clear H
             have H:=H1
             clear H1
             replace H:=Option.bind_eq_some_iff.mp H
             obtain ⟨t343,A190,H⟩:=H
             replace H:(aU.l0 k1 t343 (a0.extract 1 ((wrap64 ((a0.size:Int) - 1)):Int).toNat) (wrap64 (x5_1+6)))=some r:=H
             have A19:=ae.mk A190
             clear A190
             have H':=ae.mk H
             clear H
             have p6:0≤(x5_1:Int):=of_decide_eq_true (by first | (with_reducible assumption) | assumption)
             have q6:x5_1 < ((a0.extract 1 ((wrap64 ((a0.size:Int) - 1)):Int).toNat).size:Int):=of_decide_eq_true (by first | (with_reducible assumption) | assumption)
             have hx6:=dI (a0.extract 1 ((wrap64 ((a0.size:Int) - 1)):Int).toNat) x5_1
             replace p6:=eq_true p6
             replace q6:=eq_true q6
             (try (have q6e:=of_eq_true q6;simp only [ByteArray.size_extract] at q6e;replace q6e:=eq_true q6e))
             go_wp2_with (first | ((with_reducible refine bD (f:=49) rfl ?_);refine dS (some 34) rfl rfl Tryz.func49 (by kernel_rfl) rfl #[.string (a0.extract 1 ((wrap64 ((a0.size:Int) - 1)):Int).toNat),.int .i64 x5_1] rfl (by (try simp only [List.map_toArray,List.map_cons,List.map_nil]);first | done | rfl | (simp only [List.length_drop,List.length_take];rfl)) ?_;(with_reducible refine (bF.calls k1 (a0.extract 1 ((wrap64 ((a0.size:Int) - 1)):Int).toNat) x5_1 t330 true _ A8.out).mono ?_);rintro e w' ⟨rfl,⟨nd,rfl⟩⟩;refine ⟨_,rfl,?_⟩) | ((with_reducible refine bD (f:=49) rfl ?_);refine dS (some 54) rfl rfl Tryz.func49 (by kernel_rfl) rfl #[.string (a0.extract 1 ((wrap64 ((a0.size:Int) - 1)):Int).toNat),.int .i64 (wrap64 (x5_1+6))] rfl (by (try simp only [List.map_toArray,List.map_cons,List.map_nil]);first | done | rfl | (simp only [List.length_drop,List.length_take];rfl)) ?_;(with_reducible refine (bF.calls k1 (a0.extract 1 ((wrap64 ((a0.size:Int) - 1)):Int).toNat) (wrap64 (x5_1+6)) t336 true _ A10.out).mono ?_);rintro e w' ⟨rfl,⟨nd,rfl⟩⟩;refine ⟨_,rfl,?_⟩) | (go_at_call 50;(with_reducible refine (dM.calls t330 true _ A12.out).mono ?_);rintro e w' ⟨rfl,⟨nd,rfl⟩⟩) | (go_at_call 51;(with_reducible refine (dA.calls t336 false _ A14.out).mono ?_);rintro e w' ⟨rfl,⟨nd,rfl⟩⟩;obtain ⟨Ao20,co20,eo20⟩:=Kd.dX HO_3.out;subst eo20) | ((with_reducible refine bD (f:=64) rfl ?_);refine dS (some 77) rfl rfl Tryz.func64 (by kernel_rfl) rfl #[.slice Ao20 x3_1.length co20,.int .i64 t330] rfl (by (try simp only [List.map_toArray,List.map_cons,List.map_nil]);first | done | rfl | (simp only [List.length_drop,List.length_take];rfl)) ?_;(with_reducible refine (aN.calls k1 (fun k_=>some k_=(.slice Ao20 x3_1.length co20:Value).ownBlock) (.slice Ao20 x3_1.length co20) x3_1 t330 t343 w _ ?side1 ?side2 A19.out).mono ?_);(case side1=>repeat (first | (with_reducible first | exact HB.out | apply ah | apply ag | apply aj) | exact HB.out));(case side2=>exact Kd.pU rfl HO_3.out);rintro e w21 ⟨v344,rfl,ho0,hb,hkp⟩;refine ⟨_,rfl,?_⟩;have n0_:=ae.mk (Kd.dJ (ok':=fun k_=>True) ho0 (fun k_ hk_=>trivial));have n1_:=ae.mk (hb);clear HB;clear HO_3;have HO345:=n0_;have HB:=n1_;clear n0_ n1_;(try clear hb);(try clear hkp);(try clear ho0)))
             go_roundg k1
             case measure=>have:=HK1.out;omega
             case rel=>exact ⟨(t343),(wrap64 (x5_1+6)),(by first | rfl | (simp;done) | (simp [*];done)),H',⟨by have:=HK1.out;omega⟩,⟨by (with_reducible repeat (first | apply Kd.cO | apply Kd.dh | apply Kd.R_drew));exact HO345.out⟩,⟨by repeat (first | (with_reducible first | exact HB.out | apply ah | apply ag | apply aj) | exact HB.out)⟩⟩
           ·replace c13:=Bool.eq_false_iff.mpr c13
            subst c13
            have H1:((aN.f k1 x3_1 t330).bind fun t346=>(aU.l0 k1 t346 (a0.extract 1 ((wrap64 ((a0.size:Int) - 1)):Int).toNat) (wrap64 (x5_1+6))))=some r:=by rw [if_neg (show ¬ (false=true) by decide)] at H;exact H
            clear H
            have H:=H1
            clear H1
            replace H:=Option.bind_eq_some_iff.mp H
            obtain ⟨t346,A220,H⟩:=H
            replace H:(aU.l0 k1 t346 (a0.extract 1 ((wrap64 ((a0.size:Int) - 1)):Int).toNat) (wrap64 (x5_1+6)))=some r:=H
            have A22:=ae.mk A220
            clear A220
            have H':=ae.mk H
            clear H
            have p6:0≤(x5_1:Int):=of_decide_eq_true (by first | (with_reducible assumption) | assumption)
            have q6:x5_1 < ((a0.extract 1 ((wrap64 ((a0.size:Int) - 1)):Int).toNat).size:Int):=of_decide_eq_true (by first | (with_reducible assumption) | assumption)
            have hx6:=dI (a0.extract 1 ((wrap64 ((a0.size:Int) - 1)):Int).toNat) x5_1
            replace p6:=eq_true p6
            replace q6:=eq_true q6
            (try (have q6e:=of_eq_true q6;simp only [ByteArray.size_extract] at q6e;replace q6e:=eq_true q6e))
            go_wp2_with (first | ((with_reducible refine bD (f:=49) rfl ?_);refine dS (some 34) rfl rfl Tryz.func49 (by kernel_rfl) rfl #[.string (a0.extract 1 ((wrap64 ((a0.size:Int) - 1)):Int).toNat),.int .i64 x5_1] rfl (by (try simp only [List.map_toArray,List.map_cons,List.map_nil]);first | done | rfl | (simp only [List.length_drop,List.length_take];rfl)) ?_;(with_reducible refine (bF.calls k1 (a0.extract 1 ((wrap64 ((a0.size:Int) - 1)):Int).toNat) x5_1 t330 true _ A8.out).mono ?_);rintro e w' ⟨rfl,⟨nd,rfl⟩⟩;refine ⟨_,rfl,?_⟩) | ((with_reducible refine bD (f:=49) rfl ?_);refine dS (some 54) rfl rfl Tryz.func49 (by kernel_rfl) rfl #[.string (a0.extract 1 ((wrap64 ((a0.size:Int) - 1)):Int).toNat),.int .i64 (wrap64 (x5_1+6))] rfl (by (try simp only [List.map_toArray,List.map_cons,List.map_nil]);first | done | rfl | (simp only [List.length_drop,List.length_take];rfl)) ?_;(with_reducible refine (bF.calls k1 (a0.extract 1 ((wrap64 ((a0.size:Int) - 1)):Int).toNat) (wrap64 (x5_1+6)) t336 true _ A10.out).mono ?_);rintro e w' ⟨rfl,⟨nd,rfl⟩⟩;refine ⟨_,rfl,?_⟩) | (go_at_call 50;(with_reducible refine (dM.calls t330 false _ A12.out).mono ?_);rintro e w' ⟨rfl,⟨nd,rfl⟩⟩;obtain ⟨Ao23,co23,eo23⟩:=Kd.dX HO_3.out;subst eo23) | ((with_reducible refine bD (f:=64) rfl ?_);refine dS (some 77) rfl rfl Tryz.func64 (by kernel_rfl) rfl #[.slice Ao23 x3_1.length co23,.int .i64 t330] rfl (by (try simp only [List.map_toArray,List.map_cons,List.map_nil]);first | done | rfl | (simp only [List.length_drop,List.length_take];rfl)) ?_;(with_reducible refine (aN.calls k1 (fun k_=>some k_=(.slice Ao23 x3_1.length co23:Value).ownBlock) (.slice Ao23 x3_1.length co23) x3_1 t330 t346 w _ ?side1 ?side2 A22.out).mono ?_);(case side1=>repeat (first | (with_reducible first | exact HB.out | apply ah | apply ag | apply aj) | exact HB.out));(case side2=>exact Kd.pU rfl HO_3.out);rintro e w24 ⟨v347,rfl,ho0,hb,hkp⟩;refine ⟨_,rfl,?_⟩;have n0_:=ae.mk (Kd.dJ (ok':=fun k_=>True) ho0 (fun k_ hk_=>trivial));have n1_:=ae.mk (hb);clear HB;clear HO_3;have HO348:=n0_;have HB:=n1_;clear n0_ n1_;(try clear hb);(try clear hkp);(try clear ho0)))
            go_roundg k1
            case measure=>have:=HK1.out;omega
            case rel=>exact ⟨(t346),(wrap64 (x5_1+6)),(by first | rfl | (simp;done) | (simp [*];done)),H',⟨by have:=HK1.out;omega⟩,⟨by (with_reducible repeat (first | apply Kd.cO | apply Kd.dh | apply Kd.R_drew));exact HO348.out⟩,⟨by repeat (first | (with_reducible first | exact HB.out | apply ah | apply ag | apply aj) | exact HB.out)⟩⟩
          ·replace c11:=Bool.eq_false_iff.mpr c11
           subst c11
           have H1:((aN.f k1 x3_1 t330).bind fun t349=>(aU.l0 k1 t349 (a0.extract 1 ((wrap64 ((a0.size:Int) - 1)):Int).toNat) (wrap64 (x5_1+6))))=some r:=by rw [if_neg (show ¬ (false=true) by decide)] at H;exact H
           clear H
           have H:=H1
           clear H1
           replace H:=Option.bind_eq_some_iff.mp H
           obtain ⟨t349,A250,H⟩:=H
           replace H:(aU.l0 k1 t349 (a0.extract 1 ((wrap64 ((a0.size:Int) - 1)):Int).toNat) (wrap64 (x5_1+6)))=some r:=H
           have A25:=ae.mk A250
           clear A250
           have H':=ae.mk H
           clear H
           have p6:0≤(x5_1:Int):=of_decide_eq_true (by first | (with_reducible assumption) | assumption)
           have q6:x5_1 < ((a0.extract 1 ((wrap64 ((a0.size:Int) - 1)):Int).toNat).size:Int):=of_decide_eq_true (by first | (with_reducible assumption) | assumption)
           have hx6:=dI (a0.extract 1 ((wrap64 ((a0.size:Int) - 1)):Int).toNat) x5_1
           replace p6:=eq_true p6
           replace q6:=eq_true q6
           (try (have q6e:=of_eq_true q6;simp only [ByteArray.size_extract] at q6e;replace q6e:=eq_true q6e))
           go_wp2_with (first | ((with_reducible refine bD (f:=49) rfl ?_);refine dS (some 34) rfl rfl Tryz.func49 (by kernel_rfl) rfl #[.string (a0.extract 1 ((wrap64 ((a0.size:Int) - 1)):Int).toNat),.int .i64 x5_1] rfl (by (try simp only [List.map_toArray,List.map_cons,List.map_nil]);first | done | rfl | (simp only [List.length_drop,List.length_take];rfl)) ?_;(with_reducible refine (bF.calls k1 (a0.extract 1 ((wrap64 ((a0.size:Int) - 1)):Int).toNat) x5_1 t330 true _ A8.out).mono ?_);rintro e w' ⟨rfl,⟨nd,rfl⟩⟩;refine ⟨_,rfl,?_⟩) | ((with_reducible refine bD (f:=49) rfl ?_);refine dS (some 54) rfl rfl Tryz.func49 (by kernel_rfl) rfl #[.string (a0.extract 1 ((wrap64 ((a0.size:Int) - 1)):Int).toNat),.int .i64 (wrap64 (x5_1+6))] rfl (by (try simp only [List.map_toArray,List.map_cons,List.map_nil]);first | done | rfl | (simp only [List.length_drop,List.length_take];rfl)) ?_;(with_reducible refine (bF.calls k1 (a0.extract 1 ((wrap64 ((a0.size:Int) - 1)):Int).toNat) (wrap64 (x5_1+6)) t336 false _ A10.out).mono ?_);rintro e w' ⟨rfl,⟨nd,rfl⟩⟩;refine ⟨_,rfl,?_⟩;obtain ⟨Ao26,co26,eo26⟩:=Kd.dX HO_3.out;subst eo26) | ((with_reducible refine bD (f:=64) rfl ?_);refine dS (some 77) rfl rfl Tryz.func64 (by kernel_rfl) rfl #[.slice Ao26 x3_1.length co26,.int .i64 t330] rfl (by (try simp only [List.map_toArray,List.map_cons,List.map_nil]);first | done | rfl | (simp only [List.length_drop,List.length_take];rfl)) ?_;(with_reducible refine (aN.calls k1 (fun k_=>some k_=(.slice Ao26 x3_1.length co26:Value).ownBlock) (.slice Ao26 x3_1.length co26) x3_1 t330 t349 w _ ?side1 ?side2 A25.out).mono ?_);(case side1=>repeat (first | (with_reducible first | exact HB.out | apply ah | apply ag | apply aj) | exact HB.out));(case side2=>exact Kd.pU rfl HO_3.out);rintro e w27 ⟨v350,rfl,ho0,hb,hkp⟩;refine ⟨_,rfl,?_⟩;have n0_:=ae.mk (Kd.dJ (ok':=fun k_=>True) ho0 (fun k_ hk_=>trivial));have n1_:=ae.mk (hb);clear HB;clear HO_3;have HO351:=n0_;have HB:=n1_;clear n0_ n1_;(try clear hb);(try clear hkp);(try clear ho0)))
           go_roundg k1
           case measure=>have:=HK1.out;omega
           case rel=>exact ⟨(t349),(wrap64 (x5_1+6)),(by first | rfl | (simp;done) | (simp [*];done)),H',⟨by have:=HK1.out;omega⟩,⟨by (with_reducible repeat (first | apply Kd.cO | apply Kd.dh | apply Kd.R_drew));exact HO351.out⟩,⟨by repeat (first | (with_reducible first | exact HB.out | apply ah | apply ag | apply aj) | exact HB.out)⟩⟩
         ·replace c9:=Bool.eq_false_iff.mpr c9
          subst c9
          have H1:(if 0≤(wrap64 (x5_1+1)) then (if (wrap64 (x5_1+1)) < ((a0.extract 1 ((wrap64 ((a0.size:Int) - 1)):Int).toNat).size:Int) then ((iM.f (bt (a0.extract 1 ((wrap64 ((a0.size:Int) - 1)):Int).toNat) (wrap64 (x5_1+1)))).bind fun t332=>(if x3_1.length < 140737488355328 then (aU.l0 k1 (x3_1 ++ [t332]) (a0.extract 1 ((wrap64 ((a0.size:Int) - 1)):Int).toNat) (wrap64 (x5_1+2))) else (none))) else (none)) else (none))=some r:=by rw [if_neg (show ¬ (false=true) by decide)] at H;exact H
          clear H
          have H:=H1
          clear H1
          obtain ⟨ji28,hji28⟩:∃ j_:Int,(wrap64 (x5_1+1))=j_:=⟨_,rfl⟩
          replace H:(if 0≤(ji28) then (if (ji28) < ((a0.extract 1 ((wrap64 ((a0.size:Int) - 1)):Int).toNat).size:Int) then ((iM.f (bt (a0.extract 1 ((wrap64 ((a0.size:Int) - 1)):Int).toNat) (ji28))).bind fun t332=>(if x3_1.length < 140737488355328 then (aU.l0 k1 (x3_1 ++ [t332]) (a0.extract 1 ((wrap64 ((a0.size:Int) - 1)):Int).toNat) (wrap64 (x5_1+2))) else (none))) else (none)) else (none))=some r:=by first | (rw [hji28] at H;exact H) | (simp only [hji28] at H ⊢;exact H)
          (try rw [hji28] at A8)
          have hji28w:(IntKind.i64.wrap (x5_1+1))=ji28:=(bW _).trans hji28
          by_cases c29:0≤(ji28)
          ·rw [if_pos c29] at H
           have c29b0:decide (0≤(ji28))=true:=decide_eq_true c29
           clear c29
           by_cases c30:(ji28) < ((a0.extract 1 ((wrap64 ((a0.size:Int) - 1)):Int).toNat).size:Int)
           ·rw [if_pos c30] at H
            have c30b0:decide ((ji28) < ((a0.extract 1 ((wrap64 ((a0.size:Int) - 1)):Int).toNat).size:Int))=true:=decide_eq_true c30
            have c30b0e:=c30b0
            (try simp only [ByteArray.size_extract] at c30b0e)
            (try have c30b0q:=eq_true (of_decide_eq_true c30b0e))
            clear c30
            replace H:=Option.bind_eq_some_iff.mp H
            obtain ⟨t332,A320,H⟩:=H
            replace H:(if x3_1.length < 140737488355328 then (aU.l0 k1 (x3_1 ++ [t332]) (a0.extract 1 ((wrap64 ((a0.size:Int) - 1)):Int).toNat) (wrap64 (x5_1+2))) else (none))=some r:=H
            have A32:=ae.mk A320
            clear A320
            by_cases c33:x3_1.length < 140737488355328
            ·rw [if_pos c33] at H
             have LMc33:=ae.mk c33
             clear c33
             obtain ⟨y333,hy333⟩:∃ y_:List Int,y_=(x3_1 ++ [t332]):=⟨_,rfl⟩
             replace H:(aU.l0 k1 y333 (a0.extract 1 ((wrap64 ((a0.size:Int) - 1)):Int).toNat) (wrap64 (x5_1+2)))=some r:=by first | (rw [hy333];with_reducible exact H) | (have H2_:=(Option.bind_some _ _).symm.trans H;rw [hy333];with_reducible exact H2_) | (have H2_:=(Option.bind_some _ _).symm.trans H;with_reducible exact H2_) | with_reducible exact H | (rw [hy333];exact H) | exact H
             have Ny333:=ae.mk hy333
             clear hy333
             have H':=ae.mk H
             clear H
             have p6:0≤(x5_1:Int):=of_decide_eq_true (by first | (with_reducible assumption) | assumption)
             have q6:x5_1 < ((a0.extract 1 ((wrap64 ((a0.size:Int) - 1)):Int).toNat).size:Int):=of_decide_eq_true (by first | (with_reducible assumption) | assumption)
             have hx6:=dI (a0.extract 1 ((wrap64 ((a0.size:Int) - 1)):Int).toNat) x5_1
             replace p6:=eq_true p6
             replace q6:=eq_true q6
             (try (have q6e:=of_eq_true q6;simp only [ByteArray.size_extract] at q6e;replace q6e:=eq_true q6e))
             go_wp2_with (first | ((with_reducible refine bD (f:=49) rfl ?_);refine dS (some 34) rfl rfl Tryz.func49 (by kernel_rfl) rfl #[.string (a0.extract 1 ((wrap64 ((a0.size:Int) - 1)):Int).toNat),.int .i64 x5_1] rfl (by (try simp only [List.map_toArray,List.map_cons,List.map_nil]);first | done | rfl | (simp only [List.length_drop,List.length_take];rfl)) ?_;(with_reducible refine (bF.calls k1 (a0.extract 1 ((wrap64 ((a0.size:Int) - 1)):Int).toNat) x5_1 t330 false _ A8.out).mono ?_);rintro e w' ⟨rfl,⟨nd,rfl⟩⟩;refine ⟨_,rfl,?_⟩;have p31:0≤((ji28):Int):=of_decide_eq_true (by first | (with_reducible assumption) | assumption);have q31:(ji28) < ((a0.extract 1 ((wrap64 ((a0.size:Int) - 1)):Int).toNat).size:Int):=of_decide_eq_true (by first | (with_reducible assumption) | assumption);have hx31:=dI (a0.extract 1 ((wrap64 ((a0.size:Int) - 1)):Int).toNat) (ji28);replace p31:=eq_true p31;replace q31:=eq_true q31) | ((with_reducible refine bD (f:=63) rfl ?_);refine dS (some 44) rfl rfl Tryz.func63 (by kernel_rfl) rfl #[.int .u8 (bt (a0.extract 1 ((wrap64 ((a0.size:Int) - 1)):Int).toNat) (ji28))] rfl (by (try simp only [List.map_toArray,List.map_cons,List.map_nil]);first | done | (simp only [hji28];rfl) | rfl | (simp only [List.length_drop,List.length_take];rfl)) ?_;(with_reducible refine (iM.calls (bt (a0.extract 1 ((wrap64 ((a0.size:Int) - 1)):Int).toNat) (ji28)) t332 _ A32.out).mono ?_);rintro e w' ⟨rfl,⟨nd,rfl⟩⟩;refine ⟨_,rfl,?_⟩) | ((with_reducible refine dH (b:=.append) (xs:=#[.tmp 39,.tmp 45]) rfl ?_);at_builtin;refine Kd.lq (Kd.int .u8) (w0:=w) w.heap.size rfl (.tmp 39) (.tmp 45) 99 5 (.int .u8 0) 1 rfl Tryz.underlying99 info5 rfl (by decide) (by omega) u3 x3_1 t332 [.int .u8 t332] (fun _=>True) (fun _=>False) rfl rfl ?aP (fun _ hk=>hk.elim) ?aF ?aO ?aB ?aS ?aL ?_;(case aP=>exact rfl);(case aB=>exact (by repeat (first | (with_reducible first | exact HB.out | apply ah | apply ag | apply aj) | exact HB.out)));(case aF=>exact (fun _ _=>trivial));(case aO=>exact (by (with_reducible repeat (first | apply Kd.cO | apply Kd.dh | apply Kd.R_drew));exact HO_3.out));(case aS=>exact (bQ (by repeat (first | (with_reducible first | exact HB.out | apply ah | apply ag | apply aj) | exact HB.out))));(case aL=>have:=LMc33.out;omega);intro v334 w34 ho hb hg hat;rw [← Ny333.out] at ho;have n0_:=ae.mk (hb);have n1_:=ae.mk (ho);clear HB;clear HO_3;have HB:=n0_;have HO335:=n1_;clear n0_ n1_;clear ho hb hg hat))
             go_roundg k1
             case measure=>have:=HK1.out;omega
             case rel=>exact ⟨(y333),(wrap64 (x5_1+2)),(by first | rfl | (simp;done) | (simp [*];done)),H',⟨by have:=HK1.out;omega⟩,⟨by (with_reducible repeat (first | apply Kd.cO | apply Kd.dh | apply Kd.R_drew));exact HO335.out⟩,⟨by repeat (first | (with_reducible first | exact HB.out | apply ah | apply ag | apply aj) | exact HB.out)⟩⟩
            ·rw [if_neg c33] at H
             exact absurd H (by simp)
           ·rw [if_neg c30] at H
            exact absurd H (by simp)
          ·rw [if_neg c29] at H
           exact absurd H (by simp)
        ·rw [if_neg c7] at H
         have c7b0:((bt (a0.extract 1 ((wrap64 ((a0.size:Int) - 1)):Int).toNat) x5_1) == 92)=false:=beq_eq_false_iff_ne.mpr c7
         have c7b0e:=c7b0
         (try simp only [ByteArray.size_extract] at c7b0e)
         (try have c7b0q:=eq_true (of_decide_eq_true c7b0e))
         have c7b1:((bt (a0.extract 1 ((wrap64 ((a0.size:Int) - 1)):Int).toNat) x5_1) != 92)=true:=bne_iff_ne.mpr c7
         have c7b1e:=c7b1
         (try simp only [ByteArray.size_extract] at c7b1e)
         (try have c7b1q:=eq_true (of_decide_eq_true c7b1e))
         by_cases c36:x3_1.length < 140737488355328
         ·rw [if_pos c36] at H
          have LMc36:=ae.mk c36
          clear c36
          obtain ⟨y327,hy327⟩:∃ y_:List Int,y_=(x3_1 ++ [bt (a0.extract 1 ((wrap64 ((a0.size:Int) - 1)):Int).toNat) x5_1]):=⟨_,rfl⟩
          replace H:(aU.l0 k1 y327 (a0.extract 1 ((wrap64 ((a0.size:Int) - 1)):Int).toNat) (wrap64 (x5_1+1)))=some r:=by first | (rw [hy327];with_reducible exact H) | (have H2_:=(Option.bind_some _ _).symm.trans H;rw [hy327];with_reducible exact H2_) | (have H2_:=(Option.bind_some _ _).symm.trans H;with_reducible exact H2_) | with_reducible exact H | (rw [hy327];exact H) | exact H
          have Ny327:=ae.mk hy327
          clear hy327
          have H':=ae.mk H
          clear H
          have p6:0≤(x5_1:Int):=of_decide_eq_true (by first | (with_reducible assumption) | assumption)
          have q6:x5_1 < ((a0.extract 1 ((wrap64 ((a0.size:Int) - 1)):Int).toNat).size:Int):=of_decide_eq_true (by first | (with_reducible assumption) | assumption)
          have hx6:=dI (a0.extract 1 ((wrap64 ((a0.size:Int) - 1)):Int).toNat) x5_1
          replace p6:=eq_true p6
          replace q6:=eq_true q6
          (try (have q6e:=of_eq_true q6;simp only [ByteArray.size_extract] at q6e;replace q6e:=eq_true q6e))
          have p35:0≤(x5_1:Int):=of_decide_eq_true (by first | (with_reducible assumption) | assumption)
          have q35:x5_1 < ((a0.extract 1 ((wrap64 ((a0.size:Int) - 1)):Int).toNat).size:Int):=of_decide_eq_true (by first | (with_reducible assumption) | assumption)
          have hx35:=dI (a0.extract 1 ((wrap64 ((a0.size:Int) - 1)):Int).toNat) x5_1
          replace p35:=eq_true p35
          replace q35:=eq_true q35
          (try (have q35e:=of_eq_true q35;simp only [ByteArray.size_extract] at q35e;replace q35e:=eq_true q35e))
          go_wp2_with (first | ((with_reducible refine dH (b:=.append) (xs:=#[.tmp 23,.tmp 27]) rfl ?_);at_builtin;refine Kd.lq (Kd.int .u8) (w0:=w) w.heap.size rfl (.tmp 23) (.tmp 27) 99 5 (.int .u8 0) 1 rfl Tryz.underlying99 info5 rfl (by decide) (by omega) u3 x3_1 (bt (a0.extract 1 ((wrap64 ((a0.size:Int) - 1)):Int).toNat) x5_1) [.int .u8 (bt (a0.extract 1 ((wrap64 ((a0.size:Int) - 1)):Int).toNat) x5_1)] (fun _=>True) (fun _=>False) rfl rfl ?aP (fun _ hk=>hk.elim) ?aF ?aO ?aB ?aS ?aL ?_;(case aP=>exact rfl);(case aB=>exact (by repeat (first | (with_reducible first | exact HB.out | apply ah | apply ag | apply aj) | exact HB.out)));(case aF=>exact (fun _ _=>trivial));(case aO=>exact (by (with_reducible repeat (first | apply Kd.cO | apply Kd.dh | apply Kd.R_drew));exact HO_3.out));(case aS=>exact (bQ (by repeat (first | (with_reducible first | exact HB.out | apply ah | apply ag | apply aj) | exact HB.out))));(case aL=>have:=LMc36.out;omega);intro v328 w37 ho hb hg hat;rw [← Ny327.out] at ho;have n0_:=ae.mk (hb);have n1_:=ae.mk (ho);clear HB;clear HO_3;have HB:=n0_;have HO329:=n1_;clear n0_ n1_;clear ho hb hg hat))
          go_roundg k1
          case measure=>have:=HK1.out;omega
          case rel=>exact ⟨(y327),(wrap64 (x5_1+1)),(by first | rfl | (simp;done) | (simp [*];done)),H',⟨by have:=HK1.out;omega⟩,⟨by (with_reducible repeat (first | apply Kd.cO | apply Kd.dh | apply Kd.R_drew));exact HO329.out⟩,⟨by repeat (first | (with_reducible first | exact HB.out | apply ah | apply ag | apply aj) | exact HB.out)⟩⟩
         ·rw [if_neg c36] at H
          exact absurd H (by simp)
       ·rw [if_neg c5] at H
        exact absurd H (by simp)
      ·rw [if_neg c4] at H
       have c4b0:decide (x5_1 < ((a0.extract 1 ((wrap64 ((a0.size:Int) - 1)):Int).toNat).size:Int))=false:=decide_eq_false c4
       have c4b0e:=c4b0
       (try simp only [ByteArray.size_extract] at c4b0e)
       (try have c4b0q:=eq_true (of_decide_eq_true c4b0e))
       clear c4
       obtain rfl:=Option.some.inj H
       have hcv38:=qI (P:=Tryz.prog) Tryz.underlying99 Tryz.underlying5 Tryz.underlying9 (Kd.uB HO_3.out)
       go_wp2
       go_ret
       exact ⟨by first | rfl | (simp [aZ,bf] <;> rfl) | (simp [*,aZ,bf] <;> rfl),by repeat (first | (with_reducible first | exact HB.out | apply ah | apply ag | apply aj) | exact HB.out)⟩
  ·rw [if_neg c3] at H
   exact absurd H (by simp)
 ·rw [if_neg c2] at H
  exact absurd H (by simp)
end Go.Proofs.YtpgfjbimodnkeaaGreatDoor.Q
