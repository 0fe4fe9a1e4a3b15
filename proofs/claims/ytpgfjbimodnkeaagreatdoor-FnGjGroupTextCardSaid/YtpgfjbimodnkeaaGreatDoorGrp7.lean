/- FnGjGroupText: whatever text comes in, the law returns true and the text reads afterwards as before; with the fourteen package-level variables that its row lists as the text of the program lays them (the tied card) (part 7 of 33: lemmas for its last part) -/
import Derived.WalkMore
import Derived.Test.YtpgfjbimodnkeaaGreatDoorGrp6
set_option maxHeartbeats 16000000
set_option maxRecDepth 100000
set_option linter.unusedVariables false
set_option linter.unusedSimpArgs false
namespace Go.Proofs.YtpgfjbimodnkeaaGreatDoor.Dec
open Go Go.RowKit Go.Proofs.YtpgfjbimodnkeaaGreatDoorW.PrintWords Go.Proofs.YtpgfjbimodnkeaaGreatDoorW.PrintLast Go.Proofs.YtpgfjbimodnkeaaGreatDoorW.PrintMore
attribute [local go_sem] add0
structure Gv (e:Ending):Prop where mk :: (out:∃ (n:Int) (o:Bool),e = .returned (.tuple #[.int .u64 n,.bool o]))
theorem vz:∀ i,i < 9→1≤oU i∧oU i≤26∧(1≤i→3≤oU i):=by decide
def mu1 (dp:Int) (a0:Int):Nat:=(2*dp+(if 56≤a0 then 1 else 0)).toNat
def mu2 (dp:Int) (a0:Int):Nat:=(-10*dp+(57 - a0)).toNat
theorem EC {n:Nat} (t:List Value) (h:t.length=n):t=(List.range n).map (fun i=>t.getD i undef):=by
 subst h
 apply List.ext_getElem
 ·simp
 ·intro i h1 h2
  simp [List.getD_eq_getElem?_getD,h1]
def FbJ (g:Nat) (neg:Bool) (w:World) (l:Nat) (f:Act) (W:World):Prop :=
 ∃ (x m:Int) (o:Bool) (u2 u3 u4 u8 u9 u10 u11:Value) (t:List Value),f=⟨(.pointer (some ⟨g,0,none⟩) :: .pointer (some ⟨5,0,none⟩) :: u2 :: u3 :: u4 :: .bool o :: .int .i64 x :: .int .u64 m :: u8 :: u9 :: u10 :: u11 :: t).toArray,[]⟩∧t.length=231∧(l=0∨l=1)∧0≤m∧m < 18446744073709551616∧-1000000000≤x∧x≤1000000000∧(∃ a1 nd1 dp1 tr1,dI W g a1 nd1 dp1 neg tr1)∧Below g w W
theorem rH (w:World) (g:Nat) (a:Nat→Int) (nd dp:Int) (neg tr:Bool) (hD:dI w g a nd dp neg tr) (h:Good a nd) (hdp:-1000000000≤dp∧dp≤1000000000) (hT:Tabs g w) :
 Calls Tryz.prog 153 #[.pointer (some ⟨g,0,none⟩),.pointer (some ⟨5,0,none⟩)] w fun e w'=>Gv e∧Below g w w':=by
 have HB1:=Below.refl g w
 have hbits:=@fM
 go_enter Tryz.func153,Tryz.ntmps153
 go_wp2
 refine qi (FbJ g neg w) (fun l _ _=>l) ?_ ?_
 ·have hD1:=hD
  have e1:=hD1.jH
  have e2:=hD1.frozen
  have e4:=hD1.jV
  have e5:=hD1.kQ
  have e3:=hD1.at_neg
  have hT1:=hT.below HB1
  have t1:=hT1.bias
  have t2:=hT1.oP
  have t3:=hT1.nV
  by_cases c1:nd=0
  ·have c1b:(nd == 0)=true:=beq_iff_eq.mpr c1
   go_wp2
   go_step3
   simp only [Exit.then,Exit.inBlock,gQ]
   exact ⟨_,_,_,_,_,_,_,_,_,_,_,rfl,rfl,by simp,by omega,by omega,by omega,by omega,⟨_,_,_,_,hD1⟩,HB1⟩
  ·have c1b:(nd == 0)=false:=beq_eq_false_iff_ne.mpr c1
   by_cases c2:310 < dp
   ·have c2b:decide (310 < dp)=true:=decide_eq_true c2
    go_wp2
    go_step3
    simp only [Exit.then,Exit.inBlock,gQ]
    exact ⟨_,_,_,_,_,_,_,_,_,_,_,rfl,rfl,by simp,by omega,by omega,by omega,by omega,⟨_,_,_,_,hD1⟩,HB1⟩
   ·have c2b:decide (310 < dp)=false:=decide_eq_false c2
    by_cases c3:dp < -330
    ·have c3b:decide (dp < -330)=true:=decide_eq_true c3
     go_wp2
     go_step3
     simp only [Exit.then,Exit.inBlock,gQ]
     exact ⟨_,_,_,_,_,_,_,_,_,_,_,rfl,rfl,by simp,by omega,by omega,by omega,by omega,⟨_,_,_,_,hD1⟩,HB1⟩
    ·have c3b:decide (dp < -330)=false:=decide_eq_false c3
     have hnd:0 < nd:=by have:=h.low;omega
     go_wp2
     go_loopg [6] (mu1 dp (a 0)) (fun kq v6 w'=>∃ (x:Int) (a1:Nat→Int) (nd1 dp1:Int) (tr1:Bool),v6 = .int .i64 x∧kq=mu1 dp1 (a1 0)∧dI w' g a1 nd1 dp1 neg tr1∧Good a1 nd1∧0 < nd1∧0≤x∧x+27*(kq:Int)≤20000∧-1000≤dp1∧dp1≤310∧Below g w w')
     case atStart=>exact ⟨0,a,nd,dp,tr,rfl,rfl,hD,h,hnd,by omega,by unfold mu1;split <;> omega,by omega,by omega,HB1⟩
     case round =>
      clear e1 e2 e3 e4 e5 hT1 t1 t2 t3 c1 c1b c2 c2b c3 c3b hD1 HB1
      obtain ⟨x,a1,nd1,dp1,tr1,rfl,hkq,hD1,hG1,hnd1,hx0,hx1,hd0,hd1,HB1⟩:=hrel
      have e1:=hD1.jH
      have e2:=hD1.frozen
      have e4:=hD1.jV
      have e5:=hD1.kQ
      have e3:=hD1.at_neg
      have hT1:=hT.below HB1
      have t1:=hT1.bias
      have t2:=hT1.oP
      have t3:=hT1.nV
      have d1:=hG1.dig 0 (by omega)
      obtain ⟨b,cc,hb,h7,hpow⟩:=hT1.pow
      by_cases c1:0 < dp1
      ·have c1b:decide (0 < dp1)=true:=decide_eq_true c1
       by_cases c2:9≤dp1
       ·have c2b:decide (9≤dp1)=true:=decide_eq_true c2
        have hS:=fun m=>jM (wr.drewN m) g (-27) a1 nd1 dp1 neg tr1 (hD1.drewN' m) hG1 hnd1 (by omega) (by omega) (by omega)
        go_wp2
        repeat (go_quiet (fail);try (go_wp2_with (first | (go_at_call 169;refine (hS _).mono ?_;rintro e w4 ⟨rfl,a2,nd2,dp2,tr2,hD2,hG2,hnd2,hle2,hge2,hx2,HB2⟩))))
        go_roundg (mu1 dp2 (a2 0))
        case measure =>
         obtain ⟨hx3,hx4⟩:=hx2 (by omega)
         rw [hkq]
         unfold mu1
         have d2:=hG2.dig 0 (by omega)
         by_cases hdd:dp2=dp1
         ·have h1:=(hx4 hdd).1
          have h2:(2:Int) ^ (-(-27:Int)).toNat=134217728:=by decide
          omega
         ·split <;> split <;> omega
        case rel =>
         obtain ⟨hx3,hx4⟩:=hx2 (by omega)
         refine ⟨x+27,a2,nd2,dp2,tr2,by first | rfl | (congr 1;omega),rfl,hD2,hG2,hnd2,by omega,?_,by omega,by omega,(ag HB1 _).trans HB2⟩
         rw [hkq] at hx1
         have hm:mu1 dp2 (a2 0)+1≤mu1 dp1 (a1 0):=by
          unfold mu1
          have d2:=hG2.dig 0 (by omega)
          by_cases hdd:dp2=dp1
          ·have h1:=(hx4 hdd).1
           have h2:(2:Int) ^ (-(-27:Int)).toNat=134217728:=by decide
           omega
          ·split <;> split <;> omega
         omega
       ·have c2b:decide (9≤dp1)=false:=decide_eq_false c2
        obtain ⟨i,rfl⟩:∃ i:Nat,dp1=i:=⟨dp1.toNat,by omega⟩
        have hpi:=hpow i (by omega)
        obtain ⟨hr1,hr2,hr3⟩:=vz i (by omega)
        have hr4:=hr3 (by omega)
        obtain ⟨q,hq⟩:∃ q,oU i=q:=⟨_,rfl⟩
        rw [hq] at hpi hr1 hr2 hr4
        clear hpow hr3 hq
        have p3:(0≤(i:Int)):=by omega
        have q3:((i:Int) < 9):=by omega
        replace p3:=eq_true p3
        replace q3:=eq_true q3
        have hS:=fun m=>jM (wr.drewN m) g (-(q:Int)) a1 nd1 i neg tr1 (hD1.drewN' m) hG1 hnd1 (by omega) (by omega) (by omega)
        simp only [Int.neg_neg,Int.toNat_natCast] at hS
        go_wp2
        repeat (go_quiet (fail);try (go_wp2_with (first | (go_at_call 169;refine (hS _).mono ?_;rintro e w4 ⟨rfl,a2,nd2,dp2,tr2,hD2,hG2,hnd2,hle2,hge2,hx2,HB2⟩))))
        have hm:mu1 dp2 (a2 0)+1≤mu1 i (a1 0):=by
         obtain ⟨hx3,hx4⟩:=hx2 (by omega)
         unfold mu1
         have d2:=hG2.dig 0 (by omega)
         by_cases hdd:dp2=i
         ·have h1:=hx4 hdd
          have h2:(2:Nat) ^ 3≤2 ^ q:=Nat.pow_le_pow_right (by decide) hr4
          have h3:(2:Int) ^ q=((2 ^ q:Nat):Int):=by simp
          rw [h3] at h1
          have h4:56≤a1 0:=by omega
          have h5:¬ 56≤a2 0:=by omega
          rw [if_pos h4,if_neg h5]
          omega
         ·split <;> split <;> omega
        go_roundg (mu1 dp2 (a2 0))
        case measure=>omega
        case rel =>
         obtain ⟨hx3,hx4⟩:=hx2 (by omega)
         exact ⟨x+q,a2,nd2,dp2,tr2,by first | rfl | (congr 1;omega),rfl,hD2,hG2,hnd2,by omega,by omega,by omega,by omega,(ag HB1 _).trans HB2⟩
      ·have c1b:decide (0 < dp1)=false:=decide_eq_false c1
       go_wp2
       go_loopg [6] (mu2 dp1 (a1 0)) (fun kq v6 w'=>∃ (x:Int) (a1:Nat→Int) (nd1 dp1:Int) (tr1:Bool),v6 = .int .i64 x∧kq=mu2 dp1 (a1 0)∧dI w' g a1 nd1 dp1 neg tr1∧Good a1 nd1∧0 < nd1∧27*(kq:Int)≤x+270300∧x≤20000∧-1000≤dp1∧dp1≤400∧Below g w w')
       case atStart=>exact ⟨x,a1,nd1,dp1,tr1,rfl,rfl,hD1,hG1,hnd1,by unfold mu2;omega,by omega,by omega,by omega,HB1⟩
       case round =>
        clear e1 e2 e3 e4 e5 hT1 t1 t2 t3 c1 c1b hD1 HB1 hkq hG1 hnd1 hx0 hx1 hd0 hd1 d1 hb h7 hpow
        obtain ⟨x,a1,nd1,dp1,tr1,rfl,hkq,hD1,hG1,hnd1,hx0,hx1,hd0,hd1,HB1⟩:=hrel
        have e1:=hD1.jH
        have e2:=hD1.frozen
        have e4:=hD1.jV
        have e5:=hD1.kQ
        have e3:=hD1.at_neg
        have hT1:=hT.below HB1
        have t1:=hT1.bias
        have t2:=hT1.oP
        have t3:=hT1.nV
        have d1:=hG1.dig 0 (by omega)
        obtain ⟨b,cc,hb,h7,hpow⟩:=hT1.pow
        have e6:=hD1.dig (i:=0) (by omega)
        by_cases c1:dp1 < 0
        ·have c1b:decide (dp1 < 0)=true:=decide_eq_true c1
         obtain ⟨i,hi⟩:∃ i:Nat,-dp1=i:=⟨(-dp1).toNat,by omega⟩
         have hi2:IntKind.i64.wrap (-dp1)=(i:Int):=by rw [bf];unfold wrap64;omega
         by_cases c2:9≤i
         ·have c2b:decide (9≤(i:Int))=true:=decide_eq_true (by omega)
          have c2c:decide (9≤i)=true:=decide_eq_true c2
          have hS:=fun m=>jm (wr.drewN m) g 27 a1 nd1 dp1 neg tr1 (hD1.drewN' m) hG1 hnd1 (by omega) (by omega) (by omega) (hT1.below (ag (Below.refl _ _) _)).pU
          go_wp2
          repeat (go_quiet (fail);try (go_wp2_with (first | (go_at_call 169;refine (hS _).mono ?_;rintro e w4 ⟨rfl,a2,nd2,dp2,tr2,hD2,hG2,hnd2,hle2,hge2,hx2,HB2⟩))))
          have hm:mu2 dp2 (a2 0)+1≤mu2 dp1 (a1 0):=by
           unfold mu2
           have d2:=hG2.dig 0 (by omega)
           by_cases hdd:dp2=dp1
           ·have h1:=hx2 hdd
            omega
           ·omega
          go_roundg (mu2 dp2 (a2 0))
          case measure=>omega
          case rel=>exact ⟨x - 27,a2,nd2,dp2,tr2,by first | rfl | (congr 1;omega),rfl,hD2,hG2,hnd2,by omega,by omega,by omega,by omega,(ag HB1 _).trans HB2⟩
         ·have c2b:decide (9≤(i:Int))=false:=decide_eq_false (by omega)
          have c2c:decide (9≤i)=false:=decide_eq_false c2
          have hpi:=hpow i (by omega)
          obtain ⟨hr1,hr2,hr3⟩:=vz i (by omega)
          obtain ⟨q,hq⟩:∃ q,oU i=q:=⟨_,rfl⟩
          rw [hq] at hpi hr1 hr2
          clear hpow hr3 hq
          have p3:(0≤(i:Int)):=by omega
          have q3:((i:Int) < 9):=by omega
          replace p3:=eq_true p3
          replace q3:=eq_true q3
          have hS:=fun m=>jm (wr.drewN m) g q a1 nd1 dp1 neg tr1 (hD1.drewN' m) hG1 hnd1 (by omega) (by omega) (by omega) (hT1.below (ag (Below.refl _ _) _)).pU
          go_wp2
          repeat (go_quiet (fail);try (go_wp2_with (first | (go_at_call 169;refine (hS _).mono ?_;rintro e w4 ⟨rfl,a2,nd2,dp2,tr2,hD2,hG2,hnd2,hle2,hge2,hx2,HB2⟩))))
          have hm:mu2 dp2 (a2 0)+1≤mu2 dp1 (a1 0):=by
           unfold mu2
           have d2:=hG2.dig 0 (by omega)
           by_cases hdd:dp2=dp1
           ·have h1:=hx2 hdd
            omega
           ·omega
          go_roundg (mu2 dp2 (a2 0))
          case measure=>omega
          case rel=>exact ⟨x - q,a2,nd2,dp2,tr2,by first | rfl | (congr 1;omega),rfl,hD2,hG2,hnd2,by omega,by omega,by omega,by omega,(ag HB1 _).trans HB2⟩
        ·have c1b:decide (dp1 < 0)=false:=decide_eq_false c1
         by_cases c3:dp1=0
         ·have c3b:(dp1 == 0)=true:=beq_iff_eq.mpr c3
          by_cases c4:a1 0 < 53
          ·have c4b:decide (a1 0 < 53)=true:=decide_eq_true c4
           subst c3
           have hpi:=hpow 0 (by omega)
           rw [show ((oU 0:Nat):Int)=1 from rfl] at hpi
           have hpi':wr.cell? b=some (.int .i64 1):=by simpa [Addr.add] using hpi
           have hS:=fun m=>jm (wr.drewN m) g 1 a1 nd1 0 neg tr1 (hD1.drewN' m) hG1 hnd1 (by omega) (by omega) (by omega) (hT1.below (ag (Below.refl _ _) _)).pU
           go_wp2
           repeat (go_quiet (fail);try (go_wp2_with (first | (go_at_call 169;refine (hS _).mono ?_;rintro e w4 ⟨rfl,a2,nd2,dp2,tr2,hD2,hG2,hnd2,hle2,hge2,hx2,HB2⟩))))
           have hm:mu2 dp2 (a2 0)+1≤mu2 0 (a1 0):=by
            unfold mu2
            have d2:=hG2.dig 0 (by omega)
            by_cases hdd:dp2=0
            ·have h1:=hx2 hdd
             omega
            ·omega
           go_roundg (mu2 dp2 (a2 0))
           case measure=>omega
           case rel=>exact ⟨x - 1,a2,nd2,dp2,tr2,by first | rfl | (congr 1;omega),rfl,hD2,hG2,hnd2,by omega,by omega,by omega,by omega,(ag HB1 _).trans HB2⟩
          ·have c4b:decide (a1 0 < 53)=false:=decide_eq_false c4
           obtain ⟨y,rfl⟩:∃ y,x=y+1:=⟨x - 1,by omega⟩
           by_cases c9:y < -1022
           ·have c9b:decide (y < -1022)=true:=decide_eq_true c9
            have hS:=fun m=>jM (wr.drewN m) g (-(-1022 - y)) a1 nd1 dp1 neg tr1 (hD1.drewN' m) hG1 hnd1 (by omega) (by omega) (by omega)
            have hS0:=jM wr g (-(-1022 - y)) a1 nd1 dp1 neg tr1 hD1 hG1 hnd1 (by omega) (by omega) (by omega)
            go_wp2_with (first | (go_at_call 169;refine hS0.mono ?_;rintro e w4 ⟨rfl,a2,nd2,dp2,tr2,hD2,hG2,hnd2,hle2,hge2,hx2,HB2⟩;have HB3:=HB1.trans HB2;have t11:=(hT.below HB3).bias;have t12:=(hT.below HB3).oP;have t13:=(hT.below HB3).nV))
            have hS3:=fun (W:World) (hW:dI W g a2 nd2 dp2 neg tr2) (hTW:Tabs g W)=>jm W g 53 a2 nd2 dp2 neg tr2 hW hG2 hnd2 (by omega) (by omega) (by omega) hTW.pU
            go_wp2_with (first | (go_at_call 169;refine (hS3 _ (by repeat (first | exact hD2 | apply dI.drewN')) (hT.below (by repeat (first | exact HB3 | apply ag)))).mono ?_;rintro e w5 ⟨rfl,a5,nd5,dp5,tr5,hD5,hG5,hnd5,hle5,hge5,hx5,HB5⟩;have e15:=hD5.at_neg) | (go_at_call 170;refine (iG _ g a5 nd5 dp5 neg tr5 hD5 hG5 (by omega)).mono ?_;rintro e w6 ⟨⟨m6,rfl,hm60,hm61⟩,⟨d6,rfl⟩⟩;have t25:=(hT.below ((by repeat (first | exact HB3 | apply ag):Below g w _).trans HB5)).nV;have t26:=(hT.below ((by repeat (first | exact HB3 | apply ag):Below g w _).trans HB5)).oP;have t27:=(hT.below ((by repeat (first | exact HB3 | apply ag):Below g w _).trans HB5)).bias))
            repeat' (go_quiet (fail);try go_wp2_with (first | (go_at_call 169;refine (hS3 _ (by repeat (first | exact hD2 | apply dI.drewN')) (hT.below (by repeat (first | exact HB3 | apply ag)))).mono ?_;rintro e w5 ⟨rfl,a5,nd5,dp5,tr5,hD5,hG5,hnd5,hle5,hge5,hx5,HB5⟩;have e15:=hD5.at_neg) | (go_at_call 170;refine (iG _ g a5 nd5 dp5 neg tr5 hD5 hG5 (by omega)).mono ?_;rintro e w6 ⟨⟨m6,rfl,hm60,hm61⟩,⟨d6,rfl⟩⟩;have t25:=(hT.below ((by repeat (first | exact HB3 | apply ag):Below g w _).trans HB5)).nV;have t26:=(hT.below ((by repeat (first | exact HB3 | apply ag):Below g w _).trans HB5)).oP;have t27:=(hT.below ((by repeat (first | exact HB3 | apply ag):Below g w _).trans HB5)).bias)))
            all_goals go_step3
            all_goals simp only [Exit.then,Exit.inBlock,gQ]
            all_goals exact ⟨_,_,_,_,_,_,_,_,_,_,_,rfl,rfl,by simp,by first | omega | exact (fM _).1 | exact (fM _).2,by first | omega | exact (fM _).1 | exact (fM _).2,by omega,by omega,⟨_,_,_,_,by first | exact hD5.drewN' _ | exact hD2.drewN' _ | exact (hD5.drewN' _).drewN' _ | exact (hD2.drewN' _).drewN' _ | exact hD5 | exact hD2⟩,by repeat (first | exact HB3 | exact HB3.trans HB5 | exact (ag HB3 _).trans HB5 | apply ag)⟩
           ·have c9b:decide (y < -1022)=false:=decide_eq_false c9
            have hS3:=fun (W:World) (hW:dI W g a1 nd1 dp1 neg tr1) (hTW:Tabs g W)=>jm W g 53 a1 nd1 dp1 neg tr1 hW hG1 hnd1 (by omega) (by omega) (by omega) hTW.pU
            go_wp2_with (first | (go_at_call 169;refine (hS3 _ (by repeat (first | exact hD1 | apply dI.drewN')) (hT.below (by repeat (first | exact HB1 | apply ag)))).mono ?_;rintro e w5 ⟨rfl,a5,nd5,dp5,tr5,hD5,hG5,hnd5,hle5,hge5,hx5,HB5⟩;have e15:=hD5.at_neg) | (go_at_call 170;refine (iG _ g a5 nd5 dp5 neg tr5 hD5 hG5 (by omega)).mono ?_;rintro e w6 ⟨⟨m6,rfl,hm60,hm61⟩,⟨d6,rfl⟩⟩;have t25:=(hT.below ((by repeat (first | exact HB1 | apply ag):Below g w _).trans HB5)).nV;have t26:=(hT.below ((by repeat (first | exact HB1 | apply ag):Below g w _).trans HB5)).oP;have t27:=(hT.below ((by repeat (first | exact HB1 | apply ag):Below g w _).trans HB5)).bias))
            repeat' (go_quiet (fail);try go_wp2_with (first | (go_at_call 169;refine (hS3 _ (by repeat (first | exact hD1 | apply dI.drewN')) (hT.below (by repeat (first | exact HB1 | apply ag)))).mono ?_;rintro e w5 ⟨rfl,a5,nd5,dp5,tr5,hD5,hG5,hnd5,hle5,hge5,hx5,HB5⟩;have e15:=hD5.at_neg) | (go_at_call 170;refine (iG _ g a5 nd5 dp5 neg tr5 hD5 hG5 (by omega)).mono ?_;rintro e w6 ⟨⟨m6,rfl,hm60,hm61⟩,⟨d6,rfl⟩⟩;have t25:=(hT.below ((by repeat (first | exact HB1 | apply ag):Below g w _).trans HB5)).nV;have t26:=(hT.below ((by repeat (first | exact HB1 | apply ag):Below g w _).trans HB5)).oP;have t27:=(hT.below ((by repeat (first | exact HB1 | apply ag):Below g w _).trans HB5)).bias)))
            all_goals go_step3
            all_goals simp only [Exit.then,Exit.inBlock,gQ]
            all_goals exact ⟨_,_,_,_,_,_,_,_,_,_,_,rfl,rfl,by simp,by first | omega | exact (fM _).1 | exact (fM _).2,by first | omega | exact (fM _).1 | exact (fM _).2,by omega,by omega,⟨_,_,_,_,by first | exact hD5.drewN' _ | exact hD1.drewN' _ | exact (hD5.drewN' _).drewN' _ | exact (hD1.drewN' _).drewN' _ | exact hD5 | exact hD1⟩,by repeat (first | exact HB1 | exact HB1.trans HB5 | exact (ag HB1 _).trans HB5 | apply ag)⟩
         ·have c3b:(dp1 == 0)=false:=beq_eq_false_iff_ne.mpr c3
          obtain ⟨y,rfl⟩:∃ y,x=y+1:=⟨x - 1,by omega⟩
          by_cases c9:y < -1022
          ·have c9b:decide (y < -1022)=true:=decide_eq_true c9
           have hS:=fun m=>jM (wr.drewN m) g (-(-1022 - y)) a1 nd1 dp1 neg tr1 (hD1.drewN' m) hG1 hnd1 (by omega) (by omega) (by omega)
           have hS0:=jM wr g (-(-1022 - y)) a1 nd1 dp1 neg tr1 hD1 hG1 hnd1 (by omega) (by omega) (by omega)
           go_wp2_with (first | (go_at_call 169;refine hS0.mono ?_;rintro e w4 ⟨rfl,a2,nd2,dp2,tr2,hD2,hG2,hnd2,hle2,hge2,hx2,HB2⟩;have HB3:=HB1.trans HB2;have t11:=(hT.below HB3).bias;have t12:=(hT.below HB3).oP;have t13:=(hT.below HB3).nV))
           have hS3:=fun (W:World) (hW:dI W g a2 nd2 dp2 neg tr2) (hTW:Tabs g W)=>jm W g 53 a2 nd2 dp2 neg tr2 hW hG2 hnd2 (by omega) (by omega) (by omega) hTW.pU
           go_wp2_with (first | (go_at_call 169;refine (hS3 _ (by repeat (first | exact hD2 | apply dI.drewN')) (hT.below (by repeat (first | exact HB3 | apply ag)))).mono ?_;rintro e w5 ⟨rfl,a5,nd5,dp5,tr5,hD5,hG5,hnd5,hle5,hge5,hx5,HB5⟩;have e15:=hD5.at_neg) | (go_at_call 170;refine (iG _ g a5 nd5 dp5 neg tr5 hD5 hG5 (by omega)).mono ?_;rintro e w6 ⟨⟨m6,rfl,hm60,hm61⟩,⟨d6,rfl⟩⟩;have t25:=(hT.below ((by repeat (first | exact HB3 | apply ag):Below g w _).trans HB5)).nV;have t26:=(hT.below ((by repeat (first | exact HB3 | apply ag):Below g w _).trans HB5)).oP;have t27:=(hT.below ((by repeat (first | exact HB3 | apply ag):Below g w _).trans HB5)).bias))
           repeat' (go_quiet (fail);try go_wp2_with (first | (go_at_call 169;refine (hS3 _ (by repeat (first | exact hD2 | apply dI.drewN')) (hT.below (by repeat (first | exact HB3 | apply ag)))).mono ?_;rintro e w5 ⟨rfl,a5,nd5,dp5,tr5,hD5,hG5,hnd5,hle5,hge5,hx5,HB5⟩;have e15:=hD5.at_neg) | (go_at_call 170;refine (iG _ g a5 nd5 dp5 neg tr5 hD5 hG5 (by omega)).mono ?_;rintro e w6 ⟨⟨m6,rfl,hm60,hm61⟩,⟨d6,rfl⟩⟩;have t25:=(hT.below ((by repeat (first | exact HB3 | apply ag):Below g w _).trans HB5)).nV;have t26:=(hT.below ((by repeat (first | exact HB3 | apply ag):Below g w _).trans HB5)).oP;have t27:=(hT.below ((by repeat (first | exact HB3 | apply ag):Below g w _).trans HB5)).bias)))
           all_goals go_step3
           all_goals simp only [Exit.then,Exit.inBlock,gQ]
           all_goals exact ⟨_,_,_,_,_,_,_,_,_,_,_,rfl,rfl,by simp,by first | omega | exact (fM _).1 | exact (fM _).2,by first | omega | exact (fM _).1 | exact (fM _).2,by omega,by omega,⟨_,_,_,_,by first | exact hD5.drewN' _ | exact hD2.drewN' _ | exact (hD5.drewN' _).drewN' _ | exact (hD2.drewN' _).drewN' _ | exact hD5 | exact hD2⟩,by repeat (first | exact HB3 | exact HB3.trans HB5 | exact (ag HB3 _).trans HB5 | apply ag)⟩
          ·have c9b:decide (y < -1022)=false:=decide_eq_false c9
           have hS3:=fun (W:World) (hW:dI W g a1 nd1 dp1 neg tr1) (hTW:Tabs g W)=>jm W g 53 a1 nd1 dp1 neg tr1 hW hG1 hnd1 (by omega) (by omega) (by omega) hTW.pU
           go_wp2_with (first | (go_at_call 169;refine (hS3 _ (by repeat (first | exact hD1 | apply dI.drewN')) (hT.below (by repeat (first | exact HB1 | apply ag)))).mono ?_;rintro e w5 ⟨rfl,a5,nd5,dp5,tr5,hD5,hG5,hnd5,hle5,hge5,hx5,HB5⟩;have e15:=hD5.at_neg) | (go_at_call 170;refine (iG _ g a5 nd5 dp5 neg tr5 hD5 hG5 (by omega)).mono ?_;rintro e w6 ⟨⟨m6,rfl,hm60,hm61⟩,⟨d6,rfl⟩⟩;have t25:=(hT.below ((by repeat (first | exact HB1 | apply ag):Below g w _).trans HB5)).nV;have t26:=(hT.below ((by repeat (first | exact HB1 | apply ag):Below g w _).trans HB5)).oP;have t27:=(hT.below ((by repeat (first | exact HB1 | apply ag):Below g w _).trans HB5)).bias))
           repeat' (go_quiet (fail);try go_wp2_with (first | (go_at_call 169;refine (hS3 _ (by repeat (first | exact hD1 | apply dI.drewN')) (hT.below (by repeat (first | exact HB1 | apply ag)))).mono ?_;rintro e w5 ⟨rfl,a5,nd5,dp5,tr5,hD5,hG5,hnd5,hle5,hge5,hx5,HB5⟩;have e15:=hD5.at_neg) | (go_at_call 170;refine (iG _ g a5 nd5 dp5 neg tr5 hD5 hG5 (by omega)).mono ?_;rintro e w6 ⟨⟨m6,rfl,hm60,hm61⟩,⟨d6,rfl⟩⟩;have t25:=(hT.below ((by repeat (first | exact HB1 | apply ag):Below g w _).trans HB5)).nV;have t26:=(hT.below ((by repeat (first | exact HB1 | apply ag):Below g w _).trans HB5)).oP;have t27:=(hT.below ((by repeat (first | exact HB1 | apply ag):Below g w _).trans HB5)).bias)))
           all_goals go_step3
           all_goals simp only [Exit.then,Exit.inBlock,gQ]
           all_goals exact ⟨_,_,_,_,_,_,_,_,_,_,_,rfl,rfl,by simp,by first | omega | exact (fM _).1 | exact (fM _).2,by first | omega | exact (fM _).1 | exact (fM _).2,by omega,by omega,⟨_,_,_,_,by first | exact hD5.drewN' _ | exact hD1.drewN' _ | exact (hD5.drewN' _).drewN' _ | exact (hD1.drewN' _).drewN' _ | exact hD5 | exact hD1⟩,by repeat (first | exact HB1 | exact HB1.trans HB5 | exact (ag HB1 _).trans HB5 | apply ag)⟩
 ·intro l f W hJ
  obtain ⟨x,m,o,u2,u3,u4,u8,u9,u10,u11,t,rfl,ht,hl,hm0,hm1,hx0,hx1,⟨a1,nd1,dp1,tr1,hD1⟩,HB1⟩:=hJ
  obtain ⟨v,rfl⟩:∃ v:Nat→Value,t=[v 0,v 1,v 2,v 3,v 4,v 5,v 6,v 7,v 8,v 9,v 10,v 11,v 12,v 13,v 14,v 15,v 16,v 17,v 18,v 19,v 20,v 21,v 22,v 23,v 24,v 25,v 26,v 27,v 28,v 29,v 30,v 31,v 32,v 33,v 34,v 35,v 36,v 37,v 38,v 39,v 40,v 41,v 42,v 43,v 44,v 45,v 46,v 47,v 48,v 49,v 50,v 51,v 52,v 53,v 54,v 55,v 56,v 57,v 58,v 59,v 60,v 61,v 62,v 63,v 64,v 65,v 66,v 67,v 68,v 69,v 70,v 71,v 72,v 73,v 74,v 75,v 76,v 77,v 78,v 79,v 80,v 81,v 82,v 83,v 84,v 85,v 86,v 87,v 88,v 89,v 90,v 91,v 92,v 93,v 94,v 95,v 96,v 97,v 98,v 99,v 100,v 101,v 102,v 103,v 104,v 105,v 106,v 107,v 108,v 109,v 110,v 111,v 112,v 113,v 114,v 115,v 116,v 117,v 118,v 119,v 120,v 121,v 122,v 123,v 124,v 125,v 126,v 127,v 128,v 129,v 130,v 131,v 132,v 133,v 134,v 135,v 136,v 137,v 138,v 139,v 140,v 141,v 142,v 143,v 144,v 145,v 146,v 147,v 148,v 149,v 150,v 151,v 152,v 153,v 154,v 155,v 156,v 157,v 158,v 159,v 160,v 161,v 162,v 163,v 164,v 165,v 166,v 167,v 168,v 169,v 170,v 171,v 172,v 173,v 174,v 175,v 176,v 177,v 178,v 179,v 180,v 181,v 182,v 183,v 184,v 185,v 186,v 187,v 188,v 189,v 190,v 191,v 192,v 193,v 194,v 195,v 196,v 197,v 198,v 199,v 200,v 201,v 202,v 203,v 204,v 205,v 206,v 207,v 208,v 209,v 210,v 211,v 212,v 213,v 214,v 215,v 216,v 217,v 218,v 219,v 220,v 221,v 222,v 223,v 224,v 225,v 226,v 227,v 228,v 229,v 230]:=⟨fun i=>t.getD i undef,EC t ht⟩
  clear ht
  have e3:=hD1.at_neg
  have hT1:=hT.below HB1
  have t1:=hT1.bias
  have t2:=hT1.oP
  have t3:=hT1.nV
  rcases hl with rfl | rfl
  ·refine ⟨_,rfl,?_⟩
   go_wp2
   repeat' (go_quiet (fail);try go_wp2)
   all_goals rw [oh]
   all_goals go_ret2
   all_goals exact ⟨⟨_,_,rfl⟩,by repeat (first | exact HB1 | apply ag)⟩
  ·refine ⟨_,rfl,?_⟩
   go_wp2
   go_quiet (fail)
   go_wp2
   go_step3
   go_wp2
   repeat' (go_quiet (fail);try go_wp2)
   all_goals rw [oh]
   all_goals go_ret2
   all_goals exact ⟨⟨_,_,rfl⟩,by repeat (first | exact HB1 | apply ag)⟩
end Go.Proofs.YtpgfjbimodnkeaaGreatDoor.Dec
