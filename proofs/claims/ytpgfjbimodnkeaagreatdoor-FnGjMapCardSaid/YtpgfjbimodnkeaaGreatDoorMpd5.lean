/- FnGjMap: whatever text comes in, the law returns true and the text reads afterwards as before; with the thirteen package-level variables that its row lists as the program's own text lays them (the tied card) (part 5 of 19: lemmas for its last part) -/
import Derived.WalkMore
import Derived.Laws.Cover2
import Derived.Laws.FloatArith
import Derived.Test.YtpgfjbimodnkeaaGreatDoorMpd2
import Derived.Test.YtpgfjbimodnkeaaGreatDoorMpd4
set_option maxHeartbeats 16000000
set_option maxRecDepth 100000
set_option linter.unusedVariables false
set_option linter.unusedSimpArgs false
namespace Go.Proofs.YtpgfjbimodnkeaaGreatDoor.Dec
open Go Go.RowKit Go.Proofs.YtpgfjbimodnkeaaGreatDoorW.PrintWords Go.Proofs.YtpgfjbimodnkeaaGreatDoorW.PrintLast Go.Proofs.YtpgfjbimodnkeaaGreatDoorW.PrintMore
attribute [local go_sem] add0
structure CY (e:Ending):Prop where mk :: (out:∃ (n:Int) (o:Bool),e = .returned (.tuple #[.int .u64 n,.bool o]))
theorem rJ:∀ i,i < 9→1≤nC i∧nC i≤26∧(1≤i→3≤nC i):=by decide
def mu1 (dp:Int) (a0:Int):Nat:=(2*dp+(if 56≤a0 then 1 else 0)).toNat
def mu2 (dp:Int) (a0:Int):Nat:=(-10*dp+(57 - a0)).toNat
theorem Ar {n:Nat} (t:List Value) (h:t.length=n):t=(List.range n).map (fun i=>t.getD i undef):=by
 subst h
 apply List.ext_getElem
 ·simp
 ·intro i h1 h2
  simp [List.getD_eq_getElem?_getD,h1]
def FbJ (g:Nat) (neg:Bool) (w:World) (l:Nat) (f:Act) (W:World):Prop :=
 ∃ (x m:Int) (o:Bool) (u2 u3 u4 u8 u9 u10 u11:Value) (t:List Value),f=⟨(.pointer (some ⟨g,0,none⟩) :: .pointer (some ⟨5,0,none⟩) :: u2 :: u3 :: u4 :: .bool o :: .int .i64 x :: .int .u64 m :: u8 :: u9 :: u10 :: u11 :: t).toArray,[]⟩∧t.length=231∧(l=0∨l=1)∧0≤m∧m < 18446744073709551616∧-1000000000≤x∧x≤1000000000∧(∃ a1 nd1 dp1 tr1,dB W g a1 nd1 dp1 neg tr1)∧Below g w W
theorem pK (w:World) (g:Nat) (a:Nat→Int) (nd dp:Int) (neg tr:Bool) (hD:dB w g a nd dp neg tr) (h:Good a nd) (hdp:-1000000000≤dp∧dp≤1000000000) (hT:Tabs g w) :
 Calls Tryz.prog 153 #[.pointer (some ⟨g,0,none⟩),.pointer (some ⟨5,0,none⟩)] w fun e w'=>CY e∧Below g w w':=by
 have HB1:=Below.refl g w
 have hbits:=@fB
 go_enter Tryz.func153,Tryz.ntmps153
 go_wp2
 refine lU (FbJ g neg w) (fun l _ _=>l) ?_ ?_
 ·have hD1:=hD
  have e1:=hD1.je
  have e2:=hD1.frozen
  have e4:=hD1.jC
  have e5:=hD1.jX
  have e3:=hD1.at_neg
  have hT1:=hT.below HB1
  have t1:=hT1.bias
  have t2:=hT1.mW
  have t3:=hT1.mr
  by_cases c1:nd=0
  ·have c1b:(nd == 0)=true:=beq_iff_eq.mpr c1
   go_wp2
   go_step3
   simp only [Exit.then,Exit.inBlock,iU]
   exact ⟨_,_,_,_,_,_,_,_,_,_,_,rfl,rfl,by simp,by omega,by omega,by omega,by omega,⟨_,_,_,_,hD1⟩,HB1⟩
  ·have c1b:(nd == 0)=false:=beq_eq_false_iff_ne.mpr c1
   by_cases c2:310 < dp
   ·have c2b:decide (310 < dp)=true:=decide_eq_true c2
    go_wp2
    go_step3
    simp only [Exit.then,Exit.inBlock,iU]
    exact ⟨_,_,_,_,_,_,_,_,_,_,_,rfl,rfl,by simp,by omega,by omega,by omega,by omega,⟨_,_,_,_,hD1⟩,HB1⟩
   ·have c2b:decide (310 < dp)=false:=decide_eq_false c2
    by_cases c3:dp < -330
    ·have c3b:decide (dp < -330)=true:=decide_eq_true c3
     go_wp2
     go_step3
     simp only [Exit.then,Exit.inBlock,iU]
     exact ⟨_,_,_,_,_,_,_,_,_,_,_,rfl,rfl,by simp,by omega,by omega,by omega,by omega,⟨_,_,_,_,hD1⟩,HB1⟩
    ·have c3b:decide (dp < -330)=false:=decide_eq_false c3
     have hnd:0 < nd:=by have:=h.low;omega
     go_wp2
     go_loopg [6] (mu1 dp (a 0)) (fun kq v6 w'=>∃ (x:Int) (a1:Nat→Int) (nd1 dp1:Int) (tr1:Bool),v6 = .int .i64 x∧kq=mu1 dp1 (a1 0)∧dB w' g a1 nd1 dp1 neg tr1∧Good a1 nd1∧0 < nd1∧0≤x∧x+27*(kq:Int)≤20000∧-1000≤dp1∧dp1≤310∧Below g w w')
     case atStart=>exact ⟨0,a,nd,dp,tr,rfl,rfl,hD,h,hnd,by omega,by unfold mu1;split <;> omega,by omega,by omega,HB1⟩
     case round =>
      clear e1 e2 e3 e4 e5 hT1 t1 t2 t3 c1 c1b c2 c2b c3 c3b hD1 HB1
      obtain ⟨x,a1,nd1,dp1,tr1,rfl,hkq,hD1,hG1,hnd1,hx0,hx1,hd0,hd1,HB1⟩:=hrel
      have e1:=hD1.je
      have e2:=hD1.frozen
      have e4:=hD1.jC
      have e5:=hD1.jX
      have e3:=hD1.at_neg
      have hT1:=hT.below HB1
      have t1:=hT1.bias
      have t2:=hT1.mW
      have t3:=hT1.mr
      have d1:=hG1.dig 0 (by omega)
      obtain ⟨b,cc,hb,h7,hpow⟩:=hT1.pow
      by_cases c1:0 < dp1
      ·have c1b:decide (0 < dp1)=true:=decide_eq_true c1
       by_cases c2:9≤dp1
       ·have c2b:decide (9≤dp1)=true:=decide_eq_true c2
        have hS:=fun m=>ji (wr.drewN m) g (-27) a1 nd1 dp1 neg tr1 (hD1.drewN' m) hG1 hnd1 (by omega) (by omega) (by omega)
        go_wp2
        repeat (go_quiet (fail);try (go_wp2_with (first | (go_at_call 169;refine (hS _).mono ?_;rintro e w4 ⟨rfl,a2,nd2,dp2,tr2,hD2,hG2,hnd2,hle2,hge2,hx2,HB2⟩))))
        go_roundg (mu1 dp2 (a2 0))
        case measure =>
         obtain ⟨hx3,hx4⟩:=hx2 (by omega)
         rw [hkq]
         unfold mu1
         have d2:=hG2.dig 0 (by omega)
         by_cases hdd:dp2=dp1
         ·have h1:=(hx4 hdd).1
          have h2:(2:Int) ^ (-(-27:Int)).toNat=134217728:=by decide
          omega
         ·split <;> split <;> omega
        case rel =>
         obtain ⟨hx3,hx4⟩:=hx2 (by omega)
         refine ⟨x+27,a2,nd2,dp2,tr2,by first | rfl | (congr 1;omega),rfl,hD2,hG2,hnd2,by omega,?_,by omega,by omega,(ag HB1 _).trans HB2⟩
         rw [hkq] at hx1
         have hm:mu1 dp2 (a2 0)+1≤mu1 dp1 (a1 0):=by
          unfold mu1
          have d2:=hG2.dig 0 (by omega)
          by_cases hdd:dp2=dp1
          ·have h1:=(hx4 hdd).1
           have h2:(2:Int) ^ (-(-27:Int)).toNat=134217728:=by decide
           omega
          ·split <;> split <;> omega
         omega
       ·have c2b:decide (9≤dp1)=false:=decide_eq_false c2
        obtain ⟨i,rfl⟩:∃ i:Nat,dp1=i:=⟨dp1.toNat,by omega⟩
        have hpi:=hpow i (by omega)
        obtain ⟨hr1,hr2,hr3⟩:=rJ i (by omega)
        have hr4:=hr3 (by omega)
        obtain ⟨q,hq⟩:∃ q,nC i=q:=⟨_,rfl⟩
        rw [hq] at hpi hr1 hr2 hr4
        clear hpow hr3 hq
        have p3:(0≤(i:Int)):=by omega
        have q3:((i:Int) < 9):=by omega
        replace p3:=eq_true p3
        replace q3:=eq_true q3
        have hS:=fun m=>ji (wr.drewN m) g (-(q:Int)) a1 nd1 i neg tr1 (hD1.drewN' m) hG1 hnd1 (by omega) (by omega) (by omega)
        simp only [Int.neg_neg,Int.toNat_natCast] at hS
        go_wp2
        repeat (go_quiet (fail);try (go_wp2_with (first | (go_at_call 169;refine (hS _).mono ?_;rintro e w4 ⟨rfl,a2,nd2,dp2,tr2,hD2,hG2,hnd2,hle2,hge2,hx2,HB2⟩))))
        have hm:mu1 dp2 (a2 0)+1≤mu1 i (a1 0):=by
         obtain ⟨hx3,hx4⟩:=hx2 (by omega)
         unfold mu1
         have d2:=hG2.dig 0 (by omega)
         by_cases hdd:dp2=i
         ·have h1:=hx4 hdd
          have h2:(2:Nat) ^ 3≤2 ^ q:=Nat.pow_le_pow_right (by decide) hr4
          have h3:(2:Int) ^ q=((2 ^ q:Nat):Int):=by simp
          rw [h3] at h1
          have h4:56≤a1 0:=by omega
          have h5:¬ 56≤a2 0:=by omega
          rw [if_pos h4,if_neg h5]
          omega
         ·split <;> split <;> omega
        go_roundg (mu1 dp2 (a2 0))
        case measure=>omega
        case rel =>
         obtain ⟨hx3,hx4⟩:=hx2 (by omega)
         exact ⟨x+q,a2,nd2,dp2,tr2,by first | rfl | (congr 1;omega),rfl,hD2,hG2,hnd2,by omega,by omega,by omega,by omega,(ag HB1 _).trans HB2⟩
      ·have c1b:decide (0 < dp1)=false:=decide_eq_false c1
       go_wp2
       go_loopg [6] (mu2 dp1 (a1 0)) (fun kq v6 w'=>∃ (x:Int) (a1:Nat→Int) (nd1 dp1:Int) (tr1:Bool),v6 = .int .i64 x∧kq=mu2 dp1 (a1 0)∧dB w' g a1 nd1 dp1 neg tr1∧Good a1 nd1∧0 < nd1∧27*(kq:Int)≤x+270300∧x≤20000∧-1000≤dp1∧dp1≤400∧Below g w w')
       case atStart=>exact ⟨x,a1,nd1,dp1,tr1,rfl,rfl,hD1,hG1,hnd1,by unfold mu2;omega,by omega,by omega,by omega,HB1⟩
       case round =>
        clear e1 e2 e3 e4 e5 hT1 t1 t2 t3 c1 c1b hD1 HB1 hkq hG1 hnd1 hx0 hx1 hd0 hd1 d1 hb h7 hpow
        obtain ⟨x,a1,nd1,dp1,tr1,rfl,hkq,hD1,hG1,hnd1,hx0,hx1,hd0,hd1,HB1⟩:=hrel
        have e1:=hD1.je
        have e2:=hD1.frozen
        have e4:=hD1.jC
        have e5:=hD1.jX
        have e3:=hD1.at_neg
        have hT1:=hT.below HB1
        have t1:=hT1.bias
        have t2:=hT1.mW
        have t3:=hT1.mr
        have d1:=hG1.dig 0 (by omega)
        obtain ⟨b,cc,hb,h7,hpow⟩:=hT1.pow
        have e6:=hD1.dig (i:=0) (by omega)
        by_cases c1:dp1 < 0
        ·have c1b:decide (dp1 < 0)=true:=decide_eq_true c1
         obtain ⟨i,hi⟩:∃ i:Nat,-dp1=i:=⟨(-dp1).toNat,by omega⟩
         have hi2:IntKind.i64.wrap (-dp1)=(i:Int):=by rw [bW];unfold wrap64;omega
         by_cases c2:9≤i
         ·have c2b:decide (9≤(i:Int))=true:=decide_eq_true (by omega)
          have c2c:decide (9≤i)=true:=decide_eq_true c2
          have hS:=fun m=>iL (wr.drewN m) g 27 a1 nd1 dp1 neg tr1 (hD1.drewN' m) hG1 hnd1 (by omega) (by omega) (by omega) (hT1.below (ag (Below.refl _ _) _)).nO
          go_wp2
          repeat (go_quiet (fail);try (go_wp2_with (first | (go_at_call 169;refine (hS _).mono ?_;rintro e w4 ⟨rfl,a2,nd2,dp2,tr2,hD2,hG2,hnd2,hle2,hge2,hx2,HB2⟩))))
          have hm:mu2 dp2 (a2 0)+1≤mu2 dp1 (a1 0):=by
           unfold mu2
           have d2:=hG2.dig 0 (by omega)
           by_cases hdd:dp2=dp1
           ·have h1:=hx2 hdd
            omega
           ·omega
          go_roundg (mu2 dp2 (a2 0))
          case measure=>omega
          case rel=>exact ⟨x - 27,a2,nd2,dp2,tr2,by first | rfl | (congr 1;omega),rfl,hD2,hG2,hnd2,by omega,by omega,by omega,by omega,(ag HB1 _).trans HB2⟩
         ·have c2b:decide (9≤(i:Int))=false:=decide_eq_false (by omega)
          have c2c:decide (9≤i)=false:=decide_eq_false c2
          have hpi:=hpow i (by omega)
          obtain ⟨hr1,hr2,hr3⟩:=rJ i (by omega)
          obtain ⟨q,hq⟩:∃ q,nC i=q:=⟨_,rfl⟩
          rw [hq] at hpi hr1 hr2
          clear hpow hr3 hq
          have p3:(0≤(i:Int)):=by omega
          have q3:((i:Int) < 9):=by omega
          replace p3:=eq_true p3
          replace q3:=eq_true q3
          have hS:=fun m=>iL (wr.drewN m) g q a1 nd1 dp1 neg tr1 (hD1.drewN' m) hG1 hnd1 (by omega) (by omega) (by omega) (hT1.below (ag (Below.refl _ _) _)).nO
          go_wp2
          repeat (go_quiet (fail);try (go_wp2_with (first | (go_at_call 169;refine (hS _).mono ?_;rintro e w4 ⟨rfl,a2,nd2,dp2,tr2,hD2,hG2,hnd2,hle2,hge2,hx2,HB2⟩))))
          have hm:mu2 dp2 (a2 0)+1≤mu2 dp1 (a1 0):=by
           unfold mu2
           have d2:=hG2.dig 0 (by omega)
           by_cases hdd:dp2=dp1
           ·have h1:=hx2 hdd
            omega
           ·omega
          go_roundg (mu2 dp2 (a2 0))
          case measure=>omega
          case rel=>exact ⟨x - q,a2,nd2,dp2,tr2,by first | rfl | (congr 1;omega),rfl,hD2,hG2,hnd2,by omega,by omega,by omega,by omega,(ag HB1 _).trans HB2⟩
        ·have c1b:decide (dp1 < 0)=false:=decide_eq_false c1
         by_cases c3:dp1=0
         ·have c3b:(dp1 == 0)=true:=beq_iff_eq.mpr c3
          by_cases c4:a1 0 < 53
          ·have c4b:decide (a1 0 < 53)=true:=decide_eq_true c4
           subst c3
           have hpi:=hpow 0 (by omega)
           rw [show ((nC 0:Nat):Int)=1 from rfl] at hpi
           have hpi':wr.cell? b=some (.int .i64 1):=by simpa [Addr.add] using hpi
           have hS:=fun m=>iL (wr.drewN m) g 1 a1 nd1 0 neg tr1 (hD1.drewN' m) hG1 hnd1 (by omega) (by omega) (by omega) (hT1.below (ag (Below.refl _ _) _)).nO
           go_wp2
           repeat (go_quiet (fail);try (go_wp2_with (first | (go_at_call 169;refine (hS _).mono ?_;rintro e w4 ⟨rfl,a2,nd2,dp2,tr2,hD2,hG2,hnd2,hle2,hge2,hx2,HB2⟩))))
           have hm:mu2 dp2 (a2 0)+1≤mu2 0 (a1 0):=by
            unfold mu2
            have d2:=hG2.dig 0 (by omega)
            by_cases hdd:dp2=0
            ·have h1:=hx2 hdd
             omega
            ·omega
           go_roundg (mu2 dp2 (a2 0))
           case measure=>omega
           case rel=>exact ⟨x - 1,a2,nd2,dp2,tr2,by first | rfl | (congr 1;omega),rfl,hD2,hG2,hnd2,by omega,by omega,by omega,by omega,(ag HB1 _).trans HB2⟩
          ·have c4b:decide (a1 0 < 53)=false:=decide_eq_false c4
           obtain ⟨y,rfl⟩:∃ y,x=y+1:=⟨x - 1,by omega⟩
           by_cases c9:y < -1022
           ·have c9b:decide (y < -1022)=true:=decide_eq_true c9
            have hS:=fun m=>ji (wr.drewN m) g (-(-1022 - y)) a1 nd1 dp1 neg tr1 (hD1.drewN' m) hG1 hnd1 (by omega) (by omega) (by omega)
            have hS0:=ji wr g (-(-1022 - y)) a1 nd1 dp1 neg tr1 hD1 hG1 hnd1 (by omega) (by omega) (by omega)
            go_wp2_with (first | (go_at_call 169;refine hS0.mono ?_;rintro e w4 ⟨rfl,a2,nd2,dp2,tr2,hD2,hG2,hnd2,hle2,hge2,hx2,HB2⟩;have HB3:=HB1.trans HB2;have t11:=(hT.below HB3).bias;have t12:=(hT.below HB3).mW;have t13:=(hT.below HB3).mr))
            have hS3:=fun (W:World) (hW:dB W g a2 nd2 dp2 neg tr2) (hTW:Tabs g W)=>iL W g 53 a2 nd2 dp2 neg tr2 hW hG2 hnd2 (by omega) (by omega) (by omega) hTW.nO
            go_wp2_with (first | (go_at_call 169;refine (hS3 _ (by repeat (first | exact hD2 | apply dB.drewN')) (hT.below (by repeat (first | exact HB3 | apply ag)))).mono ?_;rintro e w5 ⟨rfl,a5,nd5,dp5,tr5,hD5,hG5,hnd5,hle5,hge5,hx5,HB5⟩;have e15:=hD5.at_neg) | (go_at_call 170;refine (gG _ g a5 nd5 dp5 neg tr5 hD5 hG5 (by omega)).mono ?_;rintro e w6 ⟨⟨m6,rfl,hm60,hm61⟩,⟨d6,rfl⟩⟩;have t25:=(hT.below ((by repeat (first | exact HB3 | apply ag):Below g w _).trans HB5)).mr;have t26:=(hT.below ((by repeat (first | exact HB3 | apply ag):Below g w _).trans HB5)).mW;have t27:=(hT.below ((by repeat (first | exact HB3 | apply ag):Below g w _).trans HB5)).bias))
            repeat' (go_quiet (fail);try go_wp2_with (first | (go_at_call 169;refine (hS3 _ (by repeat (first | exact hD2 | apply dB.drewN')) (hT.below (by repeat (first | exact HB3 | apply ag)))).mono ?_;rintro e w5 ⟨rfl,a5,nd5,dp5,tr5,hD5,hG5,hnd5,hle5,hge5,hx5,HB5⟩;have e15:=hD5.at_neg) | (go_at_call 170;refine (gG _ g a5 nd5 dp5 neg tr5 hD5 hG5 (by omega)).mono ?_;rintro e w6 ⟨⟨m6,rfl,hm60,hm61⟩,⟨d6,rfl⟩⟩;have t25:=(hT.below ((by repeat (first | exact HB3 | apply ag):Below g w _).trans HB5)).mr;have t26:=(hT.below ((by repeat (first | exact HB3 | apply ag):Below g w _).trans HB5)).mW;have t27:=(hT.below ((by repeat (first | exact HB3 | apply ag):Below g w _).trans HB5)).bias)))
            all_goals go_step3
            all_goals simp only [Exit.then,Exit.inBlock,iU]
            all_goals exact ⟨_,_,_,_,_,_,_,_,_,_,_,rfl,rfl,by simp,by first | omega | exact (fB _).1 | exact (fB _).2,by first | omega | exact (fB _).1 | exact (fB _).2,by omega,by omega,⟨_,_,_,_,by first | exact hD5.drewN' _ | exact hD2.drewN' _ | exact (hD5.drewN' _).drewN' _ | exact (hD2.drewN' _).drewN' _ | exact hD5 | exact hD2⟩,by repeat (first | exact HB3 | exact HB3.trans HB5 | exact (ag HB3 _).trans HB5 | apply ag)⟩
           ·have c9b:decide (y < -1022)=false:=decide_eq_false c9
            have hS3:=fun (W:World) (hW:dB W g a1 nd1 dp1 neg tr1) (hTW:Tabs g W)=>iL W g 53 a1 nd1 dp1 neg tr1 hW hG1 hnd1 (by omega) (by omega) (by omega) hTW.nO
            go_wp2_with (first | (go_at_call 169;refine (hS3 _ (by repeat (first | exact hD1 | apply dB.drewN')) (hT.below (by repeat (first | exact HB1 | apply ag)))).mono ?_;rintro e w5 ⟨rfl,a5,nd5,dp5,tr5,hD5,hG5,hnd5,hle5,hge5,hx5,HB5⟩;have e15:=hD5.at_neg) | (go_at_call 170;refine (gG _ g a5 nd5 dp5 neg tr5 hD5 hG5 (by omega)).mono ?_;rintro e w6 ⟨⟨m6,rfl,hm60,hm61⟩,⟨d6,rfl⟩⟩;have t25:=(hT.below ((by repeat (first | exact HB1 | apply ag):Below g w _).trans HB5)).mr;have t26:=(hT.below ((by repeat (first | exact HB1 | apply ag):Below g w _).trans HB5)).mW;have t27:=(hT.below ((by repeat (first | exact HB1 | apply ag):Below g w _).trans HB5)).bias))
            repeat' (go_quiet (fail);try go_wp2_with (first | (go_at_call 169;refine (hS3 _ (by repeat (first | exact hD1 | apply dB.drewN')) (hT.below (by repeat (first | exact HB1 | apply ag)))).mono ?_;rintro e w5 ⟨rfl,a5,nd5,dp5,tr5,hD5,hG5,hnd5,hle5,hge5,hx5,HB5⟩;have e15:=hD5.at_neg) | (go_at_call 170;refine (gG _ g a5 nd5 dp5 neg tr5 hD5 hG5 (by omega)).mono ?_;rintro e w6 ⟨⟨m6,rfl,hm60,hm61⟩,⟨d6,rfl⟩⟩;have t25:=(hT.below ((by repeat (first | exact HB1 | apply ag):Below g w _).trans HB5)).mr;have t26:=(hT.below ((by repeat (first | exact HB1 | apply ag):Below g w _).trans HB5)).mW;have t27:=(hT.below ((by repeat (first | exact HB1 | apply ag):Below g w _).trans HB5)).bias)))
            all_goals go_step3
            all_goals simp only [Exit.then,Exit.inBlock,iU]
            all_goals exact ⟨_,_,_,_,_,_,_,_,_,_,_,rfl,rfl,by simp,by first | omega | exact (fB _).1 | exact (fB _).2,by first | omega | exact (fB _).1 | exact (fB _).2,by omega,by omega,⟨_,_,_,_,by first | exact hD5.drewN' _ | exact hD1.drewN' _ | exact (hD5.drewN' _).drewN' _ | exact (hD1.drewN' _).drewN' _ | exact hD5 | exact hD1⟩,by repeat (first | exact HB1 | exact HB1.trans HB5 | exact (ag HB1 _).trans HB5 | apply ag)⟩
         ·have c3b:(dp1 == 0)=false:=beq_eq_false_iff_ne.mpr c3
          obtain ⟨y,rfl⟩:∃ y,x=y+1:=⟨x - 1,by omega⟩
          by_cases c9:y < -1022
          ·have c9b:decide (y < -1022)=true:=decide_eq_true c9
           have hS:=fun m=>ji (wr.drewN m) g (-(-1022 - y)) a1 nd1 dp1 neg tr1 (hD1.drewN' m) hG1 hnd1 (by omega) (by omega) (by omega)
           have hS0:=ji wr g (-(-1022 - y)) a1 nd1 dp1 neg tr1 hD1 hG1 hnd1 (by omega) (by omega) (by omega)
           go_wp2_with (first | (go_at_call 169;refine hS0.mono ?_;rintro e w4 ⟨rfl,a2,nd2,dp2,tr2,hD2,hG2,hnd2,hle2,hge2,hx2,HB2⟩;have HB3:=HB1.trans HB2;have t11:=(hT.below HB3).bias;have t12:=(hT.below HB3).mW;have t13:=(hT.below HB3).mr))
           have hS3:=fun (W:World) (hW:dB W g a2 nd2 dp2 neg tr2) (hTW:Tabs g W)=>iL W g 53 a2 nd2 dp2 neg tr2 hW hG2 hnd2 (by omega) (by omega) (by omega) hTW.nO
           go_wp2_with (first | (go_at_call 169;refine (hS3 _ (by repeat (first | exact hD2 | apply dB.drewN')) (hT.below (by repeat (first | exact HB3 | apply ag)))).mono ?_;rintro e w5 ⟨rfl,a5,nd5,dp5,tr5,hD5,hG5,hnd5,hle5,hge5,hx5,HB5⟩;have e15:=hD5.at_neg) | (go_at_call 170;refine (gG _ g a5 nd5 dp5 neg tr5 hD5 hG5 (by omega)).mono ?_;rintro e w6 ⟨⟨m6,rfl,hm60,hm61⟩,⟨d6,rfl⟩⟩;have t25:=(hT.below ((by repeat (first | exact HB3 | apply ag):Below g w _).trans HB5)).mr;have t26:=(hT.below ((by repeat (first | exact HB3 | apply ag):Below g w _).trans HB5)).mW;have t27:=(hT.below ((by repeat (first | exact HB3 | apply ag):Below g w _).trans HB5)).bias))
           repeat' (go_quiet (fail);try go_wp2_with (first | (go_at_call 169;refine (hS3 _ (by repeat (first | exact hD2 | apply dB.drewN')) (hT.below (by repeat (first | exact HB3 | apply ag)))).mono ?_;rintro e w5 ⟨rfl,a5,nd5,dp5,tr5,hD5,hG5,hnd5,hle5,hge5,hx5,HB5⟩;have e15:=hD5.at_neg) | (go_at_call 170;refine (gG _ g a5 nd5 dp5 neg tr5 hD5 hG5 (by omega)).mono ?_;rintro e w6 ⟨⟨m6,rfl,hm60,hm61⟩,⟨d6,rfl⟩⟩;have t25:=(hT.below ((by repeat (first | exact HB3 | apply ag):Below g w _).trans HB5)).mr;have t26:=(hT.below ((by repeat (first | exact HB3 | apply ag):Below g w _).trans HB5)).mW;have t27:=(hT.below ((by repeat (first | exact HB3 | apply ag):Below g w _).trans HB5)).bias)))
           all_goals go_step3
           all_goals simp only [Exit.then,Exit.inBlock,iU]
           all_goals exact ⟨_,_,_,_,_,_,_,_,_,_,_,rfl,rfl,by simp,by first | omega | exact (fB _).1 | exact (fB _).2,by first | omega | exact (fB _).1 | exact (fB _).2,by omega,by omega,⟨_,_,_,_,by first | exact hD5.drewN' _ | exact hD2.drewN' _ | exact (hD5.drewN' _).drewN' _ | exact (hD2.drewN' _).drewN' _ | exact hD5 | exact hD2⟩,by repeat (first | exact HB3 | exact HB3.trans HB5 | exact (ag HB3 _).trans HB5 | apply ag)⟩
          ·have c9b:decide (y < -1022)=false:=decide_eq_false c9
           have hS3:=fun (W:World) (hW:dB W g a1 nd1 dp1 neg tr1) (hTW:Tabs g W)=>iL W g 53 a1 nd1 dp1 neg tr1 hW hG1 hnd1 (by omega) (by omega) (by omega) hTW.nO
           go_wp2_with (first | (go_at_call 169;refine (hS3 _ (by repeat (first | exact hD1 | apply dB.drewN')) (hT.below (by repeat (first | exact HB1 | apply ag)))).mono ?_;rintro e w5 ⟨rfl,a5,nd5,dp5,tr5,hD5,hG5,hnd5,hle5,hge5,hx5,HB5⟩;have e15:=hD5.at_neg) | (go_at_call 170;refine (gG _ g a5 nd5 dp5 neg tr5 hD5 hG5 (by omega)).mono ?_;rintro e w6 ⟨⟨m6,rfl,hm60,hm61⟩,⟨d6,rfl⟩⟩;have t25:=(hT.below ((by repeat (first | exact HB1 | apply ag):Below g w _).trans HB5)).mr;have t26:=(hT.below ((by repeat (first | exact HB1 | apply ag):Below g w _).trans HB5)).mW;have t27:=(hT.below ((by repeat (first | exact HB1 | apply ag):Below g w _).trans HB5)).bias))
           repeat' (go_quiet (fail);try go_wp2_with (first | (go_at_call 169;refine (hS3 _ (by repeat (first | exact hD1 | apply dB.drewN')) (hT.below (by repeat (first | exact HB1 | apply ag)))).mono ?_;rintro e w5 ⟨rfl,a5,nd5,dp5,tr5,hD5,hG5,hnd5,hle5,hge5,hx5,HB5⟩;have e15:=hD5.at_neg) | (go_at_call 170;refine (gG _ g a5 nd5 dp5 neg tr5 hD5 hG5 (by omega)).mono ?_;rintro e w6 ⟨⟨m6,rfl,hm60,hm61⟩,⟨d6,rfl⟩⟩;have t25:=(hT.below ((by repeat (first | exact HB1 | apply ag):Below g w _).trans HB5)).mr;have t26:=(hT.below ((by repeat (first | exact HB1 | apply ag):Below g w _).trans HB5)).mW;have t27:=(hT.below ((by repeat (first | exact HB1 | apply ag):Below g w _).trans HB5)).bias)))
           all_goals go_step3
           all_goals simp only [Exit.then,Exit.inBlock,iU]
           all_goals exact ⟨_,_,_,_,_,_,_,_,_,_,_,rfl,rfl,by simp,by first | omega | exact (fB _).1 | exact (fB _).2,by first | omega | exact (fB _).1 | exact (fB _).2,by omega,by omega,⟨_,_,_,_,by first | exact hD5.drewN' _ | exact hD1.drewN' _ | exact (hD5.drewN' _).drewN' _ | exact (hD1.drewN' _).drewN' _ | exact hD5 | exact hD1⟩,by repeat (first | exact HB1 | exact HB1.trans HB5 | exact (ag HB1 _).trans HB5 | apply ag)⟩
 ·intro l f W hJ
  obtain ⟨x,m,o,u2,u3,u4,u8,u9,u10,u11,t,rfl,ht,hl,hm0,hm1,hx0,hx1,⟨a1,nd1,dp1,tr1,hD1⟩,HB1⟩:=hJ
  obtain ⟨v,rfl⟩:∃ v:Nat→Value,t=[v 0,v 1,v 2,v 3,v 4,v 5,v 6,v 7,v 8,v 9,v 10,v 11,v 12,v 13,v 14,v 15,v 16,v 17,v 18,v 19,v 20,v 21,v 22,v 23,v 24,v 25,v 26,v 27,v 28,v 29,v 30,v 31,v 32,v 33,v 34,v 35,v 36,v 37,v 38,v 39,v 40,v 41,v 42,v 43,v 44,v 45,v 46,v 47,v 48,v 49,v 50,v 51,v 52,v 53,v 54,v 55,v 56,v 57,v 58,v 59,v 60,v 61,v 62,v 63,v 64,v 65,v 66,v 67,v 68,v 69,v 70,v 71,v 72,v 73,v 74,v 75,v 76,v 77,v 78,v 79,v 80,v 81,v 82,v 83,v 84,v 85,v 86,v 87,v 88,v 89,v 90,v 91,v 92,v 93,v 94,v 95,v 96,v 97,v 98,v 99,v 100,v 101,v 102,v 103,v 104,v 105,v 106,v 107,v 108,v 109,v 110,v 111,v 112,v 113,v 114,v 115,v 116,v 117,v 118,v 119,v 120,v 121,v 122,v 123,v 124,v 125,v 126,v 127,v 128,v 129,v 130,v 131,v 132,v 133,v 134,v 135,v 136,v 137,v 138,v 139,v 140,v 141,v 142,v 143,v 144,v 145,v 146,v 147,v 148,v 149,v 150,v 151,v 152,v 153,v 154,v 155,v 156,v 157,v 158,v 159,v 160,v 161,v 162,v 163,v 164,v 165,v 166,v 167,v 168,v 169,v 170,v 171,v 172,v 173,v 174,v 175,v 176,v 177,v 178,v 179,v 180,v 181,v 182,v 183,v 184,v 185,v 186,v 187,v 188,v 189,v 190,v 191,v 192,v 193,v 194,v 195,v 196,v 197,v 198,v 199,v 200,v 201,v 202,v 203,v 204,v 205,v 206,v 207,v 208,v 209,v 210,v 211,v 212,v 213,v 214,v 215,v 216,v 217,v 218,v 219,v 220,v 221,v 222,v 223,v 224,v 225,v 226,v 227,v 228,v 229,v 230]:=⟨fun i=>t.getD i undef,Ar t ht⟩
  clear ht
  have e3:=hD1.at_neg
  have hT1:=hT.below HB1
  have t1:=hT1.bias
  have t2:=hT1.mW
  have t3:=hT1.mr
  rcases hl with rfl | rfl
  ·refine ⟨_,rfl,?_⟩
   go_wp2
   repeat' (go_quiet (fail);try go_wp2)
   all_goals rw [pF]
   all_goals go_ret2
   all_goals exact ⟨⟨_,_,rfl⟩,by repeat (first | exact HB1 | apply ag)⟩
  ·refine ⟨_,rfl,?_⟩
   go_wp2
   go_quiet (fail)
   go_wp2
   go_step3
   go_wp2
   repeat' (go_quiet (fail);try go_wp2)
   all_goals rw [pF]
   all_goals go_ret2
   all_goals exact ⟨⟨_,_,rfl⟩,by repeat (first | exact HB1 | apply ag)⟩
def fl2 (op:BinOp) (x y:Nat) (W:World):Nat:=match floatBits op .f64 x y with
 | some r=>r
 | none=>if (Question.nanBits .f64 x y).forced then 0 else (Question.nanBits .f64 x y).cut (W.tape W.drawn (Question.nanBits .f64 x y))
def fln (op:BinOp) (x y:Nat):Nat:=match floatBits op .f64 x y with
 | some _=>0
 | none=>if (Question.nanBits .f64 x y).forced then 0 else 1
theorem Bq (t:TypeId) (x y:Nat) (W:World):(binOp .mul t (.float .f64 x) (.float .f64 y)).run Tryz.prog W = .ok (.float .f64 (fl2 .mul x y W)) (W.drewN (fln .mul x y)):=by
 cases h:floatBits .mul .f64 x y with
 | some r =>
   rw [run_float_arith W .mul t .f64 x y r h]
   simp only [fl2,fln,h]
   rfl
 | none =>
   have h':FloatKind.f64.format.mul x y=none:=h
   simp only [fl2,fln,h]
   by_cases hf:(Question.nanBits .f64 x y).forced
   ·simp [binOp,Op.floatArith,h',hf];rfl
   ·simp [binOp,Op.floatArith,h',hf];rfl
theorem Bg (t:TypeId) (x y:Nat) (W:World):(binOp .quo t (.float .f64 x) (.float .f64 y)).run Tryz.prog W = .ok (.float .f64 (fl2 .quo x y W)) (W.drewN (fln .quo x y)):=by
 cases h:floatBits .quo .f64 x y with
 | some r =>
   rw [run_float_arith W .quo t .f64 x y r h]
   simp only [fl2,fln,h]
   rfl
 | none =>
   have h':FloatKind.f64.format.div x y=none:=h
   simp only [fl2,fln,h]
   by_cases hf:(Question.nanBits .f64 x y).forced
   ·simp [binOp,Op.floatArith,h',hf];rfl
   ·simp [binOp,Op.floatArith,h',hf];rfl
theorem Bo (x:Nat) (W:World):(Op.unary .neg (.float .f64 x)).run Tryz.prog W = .ok (.float .f64 (Op.negFloat .f64 x)) W:=by
 simp [Op.unary]
attribute [local go_sem] Bq Bg Bo
structure Ee (e:Ending):Prop where mk :: (out:∃ (b:Nat) (o:Bool),e = .returned (.tuple #[.float .f64 b,.bool o]))
theorem uO (w:World) (B:Nat) (d p:Int) (ng:Bool) (hd0:0≤d) (hd1:d < 18446744073709551616) (hp:-1000000≤p∧p≤1000000) (hT:Tabs B w) :
 Calls Tryz.prog 156 #[.int .u64 d,.int .i64 p,.bool ng] w fun e w'=>Ee e∧ai w w':=by
 have t1:=hT.mr
 obtain ⟨b,cc,hb,t2,t3⟩:=hT.ten
 by_cases k0:p=0
 ·have k0b:(p == 0)=true:=beq_iff_eq.mpr k0
  clear k0
  go_enter Tryz.func156,Tryz.ntmps156
  go_wp2
  all_goals go_ret2
  all_goals exact ⟨⟨_,_,rfl⟩,by repeat (first | exact ai.refl _ | apply ai.step)⟩
 have k0b:(p == 0)=false:=beq_eq_false_iff_ne.mpr k0
 by_cases k1:0 < p
 ·have k1b:decide (0 < p)=true:=decide_eq_true k1
  by_cases k2:p≤37
  ·have k2b:decide (p≤37)=true:=decide_eq_true k2
   by_cases k3:22 < p
   ·have k3b:decide (22 < p)=true:=decide_eq_true k3
    obtain ⟨i,hi⟩:∃ i:Nat,p - 22=i:=⟨(p - 22).toNat,by omega⟩
    obtain ⟨x1,f1⟩:=t3 i (by omega)
    obtain ⟨x2,f2⟩:=t3 22 (by omega)
    have f3:w.cell? ⟨b.block,b.off+22,none⟩=some (.float .f64 x2):=f2
    have p1:((0:Int)≤(i:Int))=True:=eq_true (by omega)
    have q1:((i:Int) < 23)=True:=eq_true (by omega)
    go_enter Tryz.func156,Tryz.ntmps156
    go_wp2
    all_goals go_ret2
    all_goals exact ⟨⟨_,_,rfl⟩,by repeat (first | exact ai.refl _ | apply ai.step)⟩
   ·have k3b:decide (22 < p)=false:=decide_eq_false k3
    obtain ⟨i,rfl⟩:∃ i:Nat,p=i:=⟨p.toNat,by omega⟩
    obtain ⟨x1,f1⟩:=t3 i (by omega)
    have p1:((0:Int)≤(i:Int))=True:=eq_true (by omega)
    have q1:((i:Int) < 23)=True:=eq_true (by omega)
    go_enter Tryz.func156,Tryz.ntmps156
    go_wp2
    all_goals go_ret2
    all_goals exact ⟨⟨_,_,rfl⟩,by repeat (first | exact ai.refl _ | apply ai.step)⟩
  ·have k2b:decide (p≤37)=false:=decide_eq_false k2
   have k4b:decide (p < 0)=false:=decide_eq_false (by omega)
   go_enter Tryz.func156,Tryz.ntmps156
   go_wp2
   all_goals go_ret2
   all_goals exact ⟨⟨_,_,rfl⟩,by repeat (first | exact ai.refl _ | apply ai.step)⟩
 ·have k1b:decide (0 < p)=false:=decide_eq_false k1
  have k4b:decide (p < 0)=true:=decide_eq_true (by omega)
  by_cases k5:-22≤p
  ·have k5b:decide (-22≤p)=true:=decide_eq_true k5
   obtain ⟨i,rfl⟩:∃ i:Nat,p=-(i:Int):=⟨(-p).toNat,by omega⟩
   obtain ⟨x1,f1⟩:=t3 i (by omega)
   have p1:((0:Int)≤(i:Int))=True:=eq_true (by omega)
   have q1:((i:Int) < 23)=True:=eq_true (by omega)
   go_enter Tryz.func156,Tryz.ntmps156
   go_wp2
   all_goals go_ret2
   all_goals exact ⟨⟨_,_,rfl⟩,by repeat (first | exact ai.refl _ | apply ai.step)⟩
  ·have k5b:decide (-22≤p)=false:=decide_eq_false k5
   go_enter Tryz.func156,Tryz.ntmps156
   go_wp2
   all_goals go_ret2
   all_goals exact ⟨⟨_,_,rfl⟩,by repeat (first | exact ai.refl _ | apply ai.step)⟩
end Go.Proofs.YtpgfjbimodnkeaaGreatDoor.Dec
namespace Go.Proofs.YtpgfjbimodnkeaaGreatDoor.Q
open Go.RowKit Go.Proofs.YtpgfjbimodnkeaaGreatDoorW.PrintWords Go.Proofs.YtpgfjbimodnkeaaGreatDoorW.PrintLast Go.Proofs.YtpgfjbimodnkeaaGreatDoorW.PrintMore
attribute [local go_sem] dm di dL dK cu bZ dD dC
def jc.f (a0:Int):Option (Int):=some ((wrap64 (a0*108853)) / 32768)
theorem jc.calls (a0:Int) (r:Int) (w:World) (h:jc.f a0=some r) :
 Calls Tryz.prog 162 #[.int .i64 a0] w fun e w'=>e = .returned (.int .i64 r)∧ai w w':=by
 have H:(some ((wrap64 (a0*108853)) / 32768))=some r:=h
 clear h
 obtain rfl:=Option.some.inj H
 go_enter Tryz.func162,Tryz.ntmps162
 go_wp2
 go_ret
 exact ⟨by first | rfl | (simp;done) | (simp [*];done),by repeat (first | exact ai.refl _ | apply ai.step)⟩
attribute [local go_sem] dm di dL dK cu bZ dD dC
def jb.f (a0:Bool):Option (Int):=if a0=true then (some 1) else (some 0)
theorem jb.calls (a0:Bool) (r:Int) (w:World) (h:jb.f a0=some r) :
 Calls Tryz.prog 165 #[.bool a0] w fun e w'=>e = .returned (.int .i64 r)∧ai w w':=by
 have H:(if a0=true then (some 1) else (some 0))=some r:=h
 clear h
 by_cases c2:a0=true
 ·subst c2
  have H1:(some 1)=some r:=by rw [if_pos rfl] at H;exact H
  clear H
  have H:=H1
  clear H1
  obtain rfl:=Option.some.inj H
  go_enter Tryz.func165,Tryz.ntmps165
  go_wp2
  go_ret
  exact ⟨by first | rfl | (simp;done) | (simp [*];done),by repeat (first | exact ai.refl _ | apply ai.step)⟩
 ·replace c2:=Bool.eq_false_iff.mpr c2
  subst c2
  have H1:(some 0)=some r:=by rw [if_neg (show ¬ (false=true) by decide)] at H;exact H
  clear H
  have H:=H1
  clear H1
  obtain rfl:=Option.some.inj H
  go_enter Tryz.func165,Tryz.ntmps165
  go_wp2
  go_ret
  exact ⟨by first | rfl | (simp;done) | (simp [*];done),by repeat (first | exact ai.refl _ | apply ai.step)⟩
attribute [local go_sem] dm di dL dK cu bZ dD dC
def kU.f (a0:Int):Option (Int):=some (IntKind.u64.wrap ((IntKind.u64.wrap (a0*4)) - 2))
theorem kU.calls (a0:Int) (r:Int) (w:World) (h:kU.f a0=some r) :
 Calls Tryz.prog 166 #[.int .u64 a0] w fun e w'=>e = .returned (.int .u64 r)∧ai w w':=by
 have H:(some (IntKind.u64.wrap ((IntKind.u64.wrap (a0*4)) - 2)))=some r:=h
 clear h
 obtain rfl:=Option.some.inj H
 go_enter Tryz.func166,Tryz.ntmps166
 go_wp2
 go_ret
 exact ⟨by first | rfl | (simp;done) | (simp [*];done),by repeat (first | exact ai.refl _ | apply ai.step)⟩
attribute [local go_sem] dm di dL dK cu bZ dD dC
def iE.f (a0:Int):Option (Int):=some ((IntKind.u64.wrap ((IntKind.u64.wrap (a0+1))+(Go.bits .and .u64 (a0 / 4) 1))) / 4)
theorem iE.calls (a0:Int) (r:Int) (w:World) (h:iE.f a0=some r) :
 Calls Tryz.prog 168 #[.int .u64 a0] w fun e w'=>e = .returned (.int .u64 r)∧ai w w':=by
 have H:(some ((IntKind.u64.wrap ((IntKind.u64.wrap (a0+1))+(Go.bits .and .u64 (a0 / 4) 1))) / 4))=some r:=h
 clear h
 obtain rfl:=Option.some.inj H
 go_enter Tryz.func168,Tryz.ntmps168
 go_wp2
 go_ret
 exact ⟨by first | rfl | (simp;done) | (simp [*];done),by repeat (first | exact ai.refl _ | apply ai.step)⟩
end Go.Proofs.YtpgfjbimodnkeaaGreatDoor.Q
namespace Go.Proofs.YtpgfjbimodnkeaaGreatDoor.Dec
open Go Go.RowKit Go.Proofs.YtpgfjbimodnkeaaGreatDoorW.PrintWords Go.Proofs.YtpgfjbimodnkeaaGreatDoorW.PrintLast Go.Proofs.YtpgfjbimodnkeaaGreatDoorW.PrintMore
structure Dt (e:Ending):Prop where mk :: (out:∃ n:Int,e = .returned (.int .i64 n)∧0≤n∧n≤64)
theorem uP {b:ByteArray} (hb:b.data.all (fun c=>decide (c.toNat≤8))=true) {i:Nat} {h:i < b.size}:0≤wrap64 (wrap64 ((b[i]'h).toNat:Int))∧wrap64 (wrap64 ((b[i]'h).toNat:Int))≤8:=by
 have h1:(b[i]'h).toNat≤8:=by
  rw [Array.all_eq_true] at hb
  have:=hb i h
  rw [ByteArray.getElem_eq_getElem_data]
  simpa using this
 unfold wrap64
 omega
theorem xH {b:ByteArray} (hb:b.data.all (fun c=>decide (c.toNat≤8))=true) {n:Int} (hn:0≤n∧n≤56) {i:Nat} {h:i < b.size}:0≤wrap64 (n+wrap64 ((b[i]'h).toNat:Int))∧wrap64 (n+wrap64 ((b[i]'h).toNat:Int))≤64:=by
 have h1:(b[i]'h).toNat≤8:=by
  rw [Array.all_eq_true] at hb
  have:=hb i h
  rw [ByteArray.getElem_eq_getElem_data]
  simpa using this
 unfold wrap64
 omega
theorem yX (w:World) (x:Int) (h0:0≤x) (h1:x < 18446744073709551616) :
 Calls Tryz.prog 114 #[.int .u64 x] w fun e w'=>Dt e∧ai w w':=by
 go_enter Tryz.func114,Tryz.ntmps114
 go_wp2
 all_goals go_ret
 all_goals refine ⟨⟨_,rfl,?_,?_⟩,ai.refl _⟩
 all_goals first | exact (uP (by kernel_rfl)).1 | exact Int.le_trans (uP (by kernel_rfl)).2 (by decide) | exact (xH (by kernel_rfl) (by decide)).1 | exact (xH (by kernel_rfl) (by decide)).2
end Go.Proofs.YtpgfjbimodnkeaaGreatDoor.Dec
namespace Go.Proofs.YtpgfjbimodnkeaaGreatDoor.Q
open Go.RowKit Go.Proofs.YtpgfjbimodnkeaaGreatDoorW.PrintWords Go.Proofs.YtpgfjbimodnkeaaGreatDoorW.PrintLast Go.Proofs.YtpgfjbimodnkeaaGreatDoorW.PrintMore
attribute [local go_sem] dm di dL dK cu bZ dD dC
def ik.f (a0:Bool):Option (Int):=if a0=true then (some 1) else (some 0)
theorem ik.calls (a0:Bool) (r:Int) (w:World) (h:ik.f a0=some r) :
 Calls Tryz.prog 154 #[.bool a0] w fun e w'=>e = .returned (.int .u64 r)∧ai w w':=by
 have H:(if a0=true then (some 1) else (some 0))=some r:=h
 clear h
 by_cases c2:a0=true
 ·subst c2
  have H1:(some 1)=some r:=by rw [if_pos rfl] at H;exact H
  clear H
  have H:=H1
  clear H1
  obtain rfl:=Option.some.inj H
  go_enter Tryz.func154,Tryz.ntmps154
  go_wp2
  go_ret
  exact ⟨by first | rfl | (simp;done) | (simp [*];done),by repeat (first | exact ai.refl _ | apply ai.step)⟩
 ·replace c2:=Bool.eq_false_iff.mpr c2
  subst c2
  have H1:(some 0)=some r:=by rw [if_neg (show ¬ (false=true) by decide)] at H;exact H
  clear H
  have H:=H1
  clear H1
  obtain rfl:=Option.some.inj H
  go_enter Tryz.func154,Tryz.ntmps154
  go_wp2
  go_ret
  exact ⟨by first | rfl | (simp;done) | (simp [*];done),by repeat (first | exact ai.refl _ | apply ai.step)⟩
attribute [local go_sem] dm di dL dK cu bZ dD dC
def bits_Mul64.f (a0:Int) (a1:Int):Option (Int × Int):=some (IntKind.u64.wrap ((IntKind.u64.wrap ((IntKind.u64.wrap ((a0 / 4294967296)*(a1 / 4294967296)))+((IntKind.u64.wrap ((IntKind.u64.wrap ((a0 / 4294967296)*(Go.bits .and .u64 a1 4294967295)))+((IntKind.u64.wrap ((Go.bits .and .u64 a0 4294967295)*(Go.bits .and .u64 a1 4294967295))) / 4294967296))) / 4294967296)))+((IntKind.u64.wrap ((Go.bits .and .u64 (IntKind.u64.wrap ((IntKind.u64.wrap ((a0 / 4294967296)*(Go.bits .and .u64 a1 4294967295)))+((IntKind.u64.wrap ((Go.bits .and .u64 a0 4294967295)*(Go.bits .and .u64 a1 4294967295))) / 4294967296))) 4294967295)+(IntKind.u64.wrap ((Go.bits .and .u64 a0 4294967295)*(a1 / 4294967296))))) / 4294967296)),IntKind.u64.wrap (a0*a1))
theorem bits_Mul64.calls (a0:Int) (a1:Int) (r1:Int) (r2:Int) (w:World) (h:bits_Mul64.f a0 a1=some (r1,r2)) :
 Calls Tryz.prog 173 #[.int .u64 a0,.int .u64 a1] w fun e w'=>e = .returned (.tuple #[.int .u64 r1,.int .u64 r2])∧ai w w':=by
 have H:(some (IntKind.u64.wrap ((IntKind.u64.wrap ((IntKind.u64.wrap ((a0 / 4294967296)*(a1 / 4294967296)))+((IntKind.u64.wrap ((IntKind.u64.wrap ((a0 / 4294967296)*(Go.bits .and .u64 a1 4294967295)))+((IntKind.u64.wrap ((Go.bits .and .u64 a0 4294967295)*(Go.bits .and .u64 a1 4294967295))) / 4294967296))) / 4294967296)))+((IntKind.u64.wrap ((Go.bits .and .u64 (IntKind.u64.wrap ((IntKind.u64.wrap ((a0 / 4294967296)*(Go.bits .and .u64 a1 4294967295)))+((IntKind.u64.wrap ((Go.bits .and .u64 a0 4294967295)*(Go.bits .and .u64 a1 4294967295))) / 4294967296))) 4294967295)+(IntKind.u64.wrap ((Go.bits .and .u64 a0 4294967295)*(a1 / 4294967296))))) / 4294967296)),IntKind.u64.wrap (a0*a1)))=some (r1,r2):=h
 clear h
 simp only [Option.some.injEq,Prod.mk.injEq] at H
 obtain ⟨rfl,rfl⟩:=H
 go_enter Tryz.func173,Tryz.ntmps173
 go_wp2
 go_ret2
 exact ⟨by first | rfl | (simp;done) | (simp [*];done),by repeat (first | exact ai.refl _ | apply ai.step)⟩
end Go.Proofs.YtpgfjbimodnkeaaGreatDoor.Q
namespace Go.Proofs.YtpgfjbimodnkeaaGreatDoor.Dec
open Go Go.RowKit Go.Proofs.YtpgfjbimodnkeaaGreatDoorW.PrintWords Go.Proofs.YtpgfjbimodnkeaaGreatDoorW.PrintLast Go.Proofs.YtpgfjbimodnkeaaGreatDoorW.PrintMore
structure BJ (e:Ending):Prop where mk :: (out:∃ n:Int,e = .returned (.int .u64 n))
def bi (b:Bool):Int:=cond b 1 0
def kW (W:World) (g:Nat) (x y z:Int):Prop:=∃ T,W.heap[g]?=some (.cells #[.int .u64 x,.int .u64 y,.int .i64 z] T (0,0))
theorem Ew (g m:Nat):(⟨g,0,none⟩:Addr).add m=⟨g,m,none⟩:=by
 unfold Addr.add
 split
 ·subst_vars;rfl
 ·simp
attribute [local go_sem] Ew
theorem kW.set0 {W:World} {g:Nat} {x y z:Int} (h:kW W g x y z) (u:Int):kW (W.setCell ⟨g,0,none⟩ (.int .u64 u)) g u y z:=by
 obtain ⟨T,h⟩:=h
 exact ⟨T,jP h 0 _⟩
theorem kW.set1 {W:World} {g:Nat} {x y z:Int} (h:kW W g x y z) (u:Int):kW (W.setCell ⟨g,1,none⟩ (.int .u64 u)) g x u z:=by
 obtain ⟨T,h⟩:=h
 exact ⟨T,jP h 1 _⟩
theorem kW.set2 {W:World} {g:Nat} {x y z:Int} (h:kW W g x y z) (u:Int):kW (W.setCell ⟨g,2,none⟩ (.int .i64 u)) g x y u:=by
 obtain ⟨T,h⟩:=h
 exact ⟨T,jP h 2 _⟩
theorem kW.at0 {W:World} {g:Nat} {x y z:Int} (h:kW W g x y z):W.cell? ⟨g,0,none⟩=some (.int .u64 x):=by
 obtain ⟨T,h⟩:=h
 exact (ak h 0).trans rfl
theorem kW.at1 {W:World} {g:Nat} {x y z:Int} (h:kW W g x y z):W.cell? ⟨g,1,none⟩=some (.int .u64 y):=by
 obtain ⟨T,h⟩:=h
 exact (ak h 1).trans rfl
theorem kW.at2 {W:World} {g:Nat} {x y z:Int} (h:kW W g x y z):W.cell? ⟨g,2,none⟩=some (.int .i64 z):=by
 obtain ⟨T,h⟩:=h
 exact (ak h 2).trans rfl
theorem kW.frozen {W:World} {g:Nat} {x y z:Int} (h:kW W g x y z) (i:Nat):W.frozen? ⟨g,i,none⟩=false:=by
 obtain ⟨T,h⟩:=h
 exact ax h i
theorem qh (w:World) (g:Nat) (e p lp x y z:Int) (hI:kW w g x y z) (hT:Tabs g w) (hp0:-348≤p) (hp1:p < 348) :
 Calls Tryz.prog 163 #[.pointer (some ⟨g,0,none⟩),.int .i64 e,.int .i64 p,.int .i64 lp] w fun r w'=>r = .returned (.tuple #[])∧(∃ x y z,kW w' g x y z)∧Below g w w':=by
 have HB:=Below.refl g w
 obtain ⟨i,hi⟩:∃ i:Nat,p=(i:Int) - 348:=⟨(p+348).toNat,by omega⟩
 obtain ⟨u0,_,_,t0⟩:=hT.tab (i*2) (by omega)
 obtain ⟨u1,_,_,t1⟩:=hT.tab (i*2+1) (by omega)
 have hw:IntKind.i64.wrap ((i:Int) - 348 - -348)=(i:Int):=by rw [bW];unfold wrap64;omega
 have e0:=hI.at0
 have e1:=hI.at1
 have e2:=hI.at2
 have e3:=hI.frozen
 have hl:=hT.low
 have hg9:(9:Nat)≠g:=by omega
 have p1:(0:Int)≤(i:Int):=by omega
 have q1:(i:Int) < 696:=by omega
 replace p1:=eq_true p1
 replace q1:=eq_true q1
 subst hi
 go_enter Tryz.func163,Tryz.ntmps163
 go_wp2
 first | go_end0 | ((try simp only [Exit.inBlock,Exit.then]);refine bodyPost_ret (results_none rfl _ _ _) rfl ?_)
 exact ⟨by first | rfl | simp,⟨_,_,_,((hI.set0 _).set1 _).set2 _⟩,((HB.setCell (Nat.le_refl _) _).setCell (Nat.le_refl _) _).setCell (Nat.le_refl _) _⟩
theorem yU (n:Int):bits .and .i64 n 63=n % 64:=by
 have h63:(BitVec.ofInt 64 63).toNat=2 ^ 6 - 1:=by decide
 have key:(BitVec.ofInt 64 n &&& BitVec.ofInt 64 63).toNat=(n % ((2 ^ 64:Nat):Int)).toNat % 2 ^ 6:=by
  rw [BitVec.toNat_and,BitVec.toNat_ofInt,h63,Nat.and_two_pow_sub_one_eq_mod]
 show IntKind.i64.wrap ((BitVec.ofInt 64 n &&& BitVec.ofInt 64 63).toNat:Nat)=n % 64
 rw [key,IntKind.wrap_i64]
 omega
theorem ul (w:World) (g:Nat) (d x y z:Int) (hI:kW w g x y z) :
 Calls Tryz.prog 164 #[.int .u64 d,.pointer (some ⟨g,0,none⟩)] w fun r w'=>BJ r∧ai w w':=by
 have e0:=hI.at0
 have e1:=hI.at1
 have e2:=hI.at2
 have e3:=hI.frozen
 have hm:=yU z
 obtain ⟨s,hs⟩:∃ s:Nat,z % 64=s:=⟨(z % 64).toNat,by omega⟩
 rw [hs] at hm
 have hs64:s < 64:=by omega
 clear hs
 have hmul:∀ a b:Int,∃ r1 r2:Int,∀ W,Calls Tryz.prog 173 #[.int .u64 a,.int .u64 b] W fun e w'=>e = .returned (.tuple #[.int .u64 r1,.int .u64 r2])∧ai W w':=fun a b=>by
  obtain ⟨⟨r1,r2⟩,hr⟩:∃ r,Go.Proofs.YtpgfjbimodnkeaaGreatDoor.Q.bits_Mul64.f a b=some r:=by
   unfold Go.Proofs.YtpgfjbimodnkeaaGreatDoor.Q.bits_Mul64.f
   exact ⟨_,rfl⟩
  exact ⟨r1,r2,fun W=>Go.Proofs.YtpgfjbimodnkeaaGreatDoor.Q.bits_Mul64.calls a b r1 r2 W hr⟩
 obtain ⟨h1,h2,hm1⟩:=hmul d x
 obtain ⟨h3,h4,hm2⟩:=hmul d y
 have hb2:∀ (b:Bool) (W:World),Calls Tryz.prog 154 #[.bool b] W fun e w'=>e = .returned (.int .u64 (bi b))∧ai W w':=fun b W=>Go.Proofs.YtpgfjbimodnkeaaGreatDoor.Q.ik.calls b _ W (by cases b <;> rfl)
 have p5:((0:Int)≤(s:Int))=True:=eq_true (by omega)
 have q5:((s:Int) < 64)=True:=eq_true (by omega)
 have q6:((s:Int)≤64)=True:=eq_true (by omega)
 clear hmul
 go_enter Tryz.func164,Tryz.ntmps164
 go_wp2_with (first | (go_at_call 173;first | (with_reducible refine (hm1 _).mono ?_;rintro e w4 ⟨rfl,⟨m4,rfl⟩⟩) | (with_reducible refine (hm2 _).mono ?_;rintro e w4 ⟨rfl,⟨m4,rfl⟩⟩)) | (go_at_call 154;refine (hb2 _ _).mono ?_;rintro e w4 ⟨rfl,⟨m4,rfl⟩⟩))
 all_goals try (go_quiet (first | (go_at_call 154;refine (hb2 _ _).mono ?_;rintro e w' ⟨rfl,⟨nd,rfl⟩⟩;first | exact ⟨rfl,_,rfl⟩ | exact ⟨rfl,_,World.drewN_drewN _ _ _⟩ | (refine ⟨rfl,?_⟩;simp only [World.drewN_drewN,Nat.add_assoc];exact ⟨_,rfl⟩)));try go_wp2)
 all_goals go_ret
 all_goals exact ⟨⟨_,rfl⟩,by repeat (first | exact ai.refl _ | apply ai.step)⟩
end Go.Proofs.YtpgfjbimodnkeaaGreatDoor.Dec
