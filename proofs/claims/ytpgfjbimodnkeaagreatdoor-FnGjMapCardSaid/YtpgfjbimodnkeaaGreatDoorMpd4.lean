/- FnGjMap: whatever text comes in, the law returns true and the text reads afterwards as before; with the thirteen package-level variables that its row lists as the program's own text lays them (the tied card) (part 4 of 19: lemmas for its last part) -/
import Derived.WalkMore
import Derived.Laws.BitsAllLaws
import Derived.ScopeJumps
import Derived.Test.YtpgfjbimodnkeaaGreatDoorMpd2
import Derived.Test.YtpgfjbimodnkeaaGreatDoorMpd3
set_option maxHeartbeats 16000000
set_option maxRecDepth 100000
set_option linter.unusedVariables false
set_option linter.unusedSimpArgs false
namespace Go.Proofs.YtpgfjbimodnkeaaGreatDoor.Dec
open Go Go.RowKit Go.Proofs.YtpgfjbimodnkeaaGreatDoorW.PrintWords Go.Proofs.YtpgfjbimodnkeaaGreatDoorW.PrintLast Go.Proofs.YtpgfjbimodnkeaaGreatDoorW.PrintMore
attribute [local go_sem] add0
theorem oG {n k K:Nat} (hK:2 ^ k=K) (hn:n < 18446744073709551616) (hk:k < 61):bits .and .u64 (n:Int) ((K:Int) - 1)=((n % K:Nat):Int):=by
 have h1:0 < K:=by rw [← hK];exact Nat.pow_pos (by decide)
 have h2:K≤2 ^ 60:=by rw [← hK];exact Nat.pow_le_pow_right (by decide) (by omega)
 rw [show (K:Int) - 1=((K - 1:Nat):Int) by omega,u64_and_nat n (K - 1) hn (by omega),← hK,Nat.and_two_pow_sub_one_eq_mod]
theorem zI {n K:Nat} (hK:0 < K) (h:K≤n):((n:Int) / (K:Int) == 0)=false:=by
 refine beq_eq_false_iff_ne.mpr (fun he=>?_)
 rw [show (n:Int) / (K:Int)=((n / K:Nat):Int) by simp] at he
 have:0 < n / K:=Nat.div_pos h hK
 omega
theorem pq (w:World) (g k:Nat) (a:Nat→Int) (nd dp:Int) (neg tr:Bool) (hD:dB w g a nd dp neg tr) (h:Good a nd) (hnd:0 < nd) (hk0:0 < k) (hk:k < 61)
 (hdp:-1000000000≤dp∧dp≤1000000000) :
 Calls Tryz.prog 175 #[.pointer (some ⟨g,0,none⟩),.int .u64 k] w fun e w'=>e = .returned (.tuple #[])∧∃ a' nd' dp' tr',dB w' g a' nd' dp' neg tr'∧Good a' nd'∧0 < nd' ∧
  dp'≤dp∧dp≤dp'+1000∧(dp'=dp→(2:Int) ^ k≤a 0 - 48∧2*(a' 0 - 48)≤a 0 - 48)∧Below g w w':=by
 have HB:=Below.refl g w
 obtain ⟨N,rfl⟩:∃ N:Nat,nd=N:=⟨nd.toNat,by omega⟩
 have hN:=h.high
 have hk60:2 ^ k≤2 ^ 60:=Nat.pow_le_pow_right (by decide) (by omega)
 obtain ⟨K,hK⟩:∃ K,2 ^ k=K:=⟨_,rfl⟩
 have hKi:(2:Int) ^ k=(K:Int):=by rw [← hK];simp
 have hKpos:0 < K:=by rw [← hK];exact Nat.pow_pos (by decide)
 have p1:(0≤(k:Int)):=by omega
 have q1:((k:Int) < 64):=by omega
 replace p1:=eq_true p1
 replace q1:=eq_true q1
 go_enter Tryz.func175,Tryz.ntmps175
 go_wp2
 go_loopg [4,6] N (fun kq v4 v6 w'=>∃ (r n:Nat),v4 = .int .i64 (r:Int)∧v6 = .int .u64 (n:Int)∧kq=N - r∧r≤N∧n < 10*K∧(r=0→n=0)∧(1≤r→1≤n)∧(r=1→(n:Int)=a 0 - 48)∧w'=w)
 case atStart=>exact ⟨0,0,rfl,rfl,by omega,by omega,by have:=Nat.pow_pos (n:=k) (show 0 < 2 by decide);omega,fun _=>rfl,by omega,by omega,rfl⟩
 case round =>
  obtain ⟨r,n,rfl,rfl,hkq,hr,hn,hr0,hr1,hr2,rfl⟩:=hrel
  have e1:=hD.je
  have e2:=hD.frozen
  have e4:=hD.jC
  have e5:=hD.jX
  by_cases c:n < K
  ·have c1:((n:Int) / (K:Int) == 0)=true:=beq_iff_eq.mpr (Int.ediv_eq_zero_of_lt (by omega) (by omega))
   by_cases c2:N≤r
   ·have c2b:decide (N≤r)=true:=decide_eq_true c2
    have hn1:=hr1 (by omega)
    have c3:((n:Int) == 0)=false:=beq_eq_false_iff_ne.mpr (by omega)
    go_wp2
    go_loopg [4,6] (K - n) (fun kq v4 v6 w'=>∃ (r n:Nat),v4 = .int .i64 (r:Int)∧v6 = .int .u64 (n:Int)∧kq=K - n∧1≤r∧N≤r∧2 ^ (r - N)≤n∧1≤n∧n < 10*K∧(r=1→(n:Int)=a 0 - 48)∧w'=wr)
    case atStart=>exact ⟨r,n,rfl,rfl,rfl,by omega,by omega,by rw [show r - N=0 by omega];simpa using hn1,by omega,by omega,hr2,rfl⟩
    case round =>
     clear hkq hr hn hr0 hr1 hr2 c c1 c2 c2b hn1 c3
     obtain ⟨r,n,rfl,rfl,hkq,hr,hNr,hrn,hn1,hn,hr2,rfl⟩:=hrel
     have hr63:r - N < 64:=by
      refine Nat.lt_of_not_le (fun h64=>?_)
      have:2 ^ 64≤2 ^ (r - N):=Nat.pow_le_pow_right (by decide) h64
      omega
     by_cases c:n < K
     ·have c1:((n:Int) / (K:Int) == 0)=true:=beq_iff_eq.mpr (Int.ediv_eq_zero_of_lt (by omega) (by omega))
      go_wp2
      go_roundg (K - n*10)
      case measure=>omega
      case rel=>exact ⟨r+1,n*10,by first | rfl | (congr 1;omega),by first | rfl | (congr 1;omega),rfl,by omega,by omega,by rw [show r+1 - N=(r - N)+1 by omega,Nat.pow_succ];omega,by omega,by omega,by omega,rfl⟩
     ·have c1:((n:Int) / (K:Int) == 0)=false:=zI hKpos (by omega)
      have hr864:r≤864:=by omega
      have hKn:K≤n:=by omega
      have w3:IntKind.i64.wrap ((r:Int) - 1)=(r:Int) - 1:=by rw [bW];unfold wrap64;omega
      have w4:IntKind.i64.wrap (dp - ((r:Int) - 1))=dp - ((r:Int) - 1):=by rw [bW];unfold wrap64;omega
      go_wp2
      go_loopg [4,5,6] (N - r) (fun kq v4 v5 v6 w'=>∃ (r1 w1 n1:Nat) (a1:Nat→Int),v4 = .int .i64 (r1:Int)∧v5 = .int .i64 (w1:Int)∧v6 = .int .u64 (n1:Int)∧kq=N - r1∧r1≤864∧w1 < r1∧w1≤N∧n1 < 10*K∧dB w' g a1 N (dp - ((r:Int) - 1)) neg tr ∧
       (∀ j,w1≤j→a1 j=a j)∧(∀ j,j < w1→48≤a1 j∧a1 j≤57)∧(w1=0→n1=n)∧(1≤w1→a1 0=48+((n / K:Nat):Int))∧Below g _ w')
      case atStart=>exact ⟨r,0,n,a,rfl,rfl,rfl,by omega,by omega,by omega,by omega,by omega,hD.oM _,fun _ _=>rfl,fun _ h1=>by omega,fun _=>rfl,fun h1=>by omega,HB.setCell (Nat.le_refl _) _⟩
      case round =>
       obtain ⟨r1,w1,n1,a1,rfl,rfl,rfl,hkq1,hr1',hwr,hwN,hn1',hD1,hsame,hdig,hw0,hw1,HB1⟩:=hrel
       have e1:=hD1.je
       have e2:=hD1.frozen
       have e4:=hD1.jC
       have e5:=hD1.jX
       by_cases c:r1 < N
       ·have c1:decide ((r1:Int) < (N:Int))=true:=decide_eq_true (by omega)
        have c1':decide (r1 < N)=true:=decide_eq_true (by omega)
        have e6:=hD1.dig (i:=r1) (by omega)
        rw [hsame r1 (by omega)] at e6
        have e7:=h.dig r1 (by omega)
        have e8:=hD1.dig (i:=w1) (by omega)
        have p3:(0≤(r1:Int)):=by omega
        have q3:((r1:Int) < 800):=by omega
        have p4:(0≤(w1:Int)):=by omega
        have q4:((w1:Int) < 800):=by omega
        replace p3:=eq_true p3
        replace q3:=eq_true q3
        replace p4:=eq_true p4
        replace q4:=eq_true q4
        obtain ⟨q,hq⟩:∃ q,n1 / K=q:=⟨_,rfl⟩
        have hq9:q < 10:=by rw [← hq,Nat.div_lt_iff_lt_mul hKpos];exact hn1'
        have hqi:(n1:Int) / (K:Int)=(q:Int):=by rw [← hq];simp
        have hm:bits .and .u64 (n1:Int) ((K:Int) - 1)=((n1 % K:Nat):Int):=oG hK (by omega) hk
        have hmK:n1 % K < K:=Nat.mod_lt _ hKpos
        obtain ⟨m,hm2⟩:∃ m,n1 % K=m:=⟨_,rfl⟩
        rw [hm2] at hm hmK
        have AA:=ae.mk (And.intro hq hm2)
        clear hq hm2
        go_wp2
        go_roundg (N - (r1+1))
        case measure=>omega
        case rel =>
         refine ⟨r1+1,w1+1,m*10+(a r1 - 48).toNat,upd a1 w1 ((q:Int)+48),by first | rfl | (congr 1;omega),by first | rfl | (congr 1;omega),by first | rfl | (congr 1;omega),rfl,by omega,by omega,by omega,by omega,hD1.lD (by omega) _,fun j hj=>?_,fun j hj=>?_,fun h0=>by omega,fun _=>?_,HB1.setCell (Nat.le_refl _) _⟩
         ·rw [upd,if_neg (by omega)];exact hsame j (by omega)
         ·by_cases hj2:j=w1
          ·simp only [upd,if_pos hj2];omega
          ·rw [upd,if_neg hj2];exact hdig j (by omega)
         ·by_cases hz:w1=0
          ·subst hz
           simp only [upd,if_true]
           have:=AA.out.1
           rw [hw0 rfl] at this
           rw [this];omega
          ·rw [upd,if_neg (by omega)];exact hw1 (by omega)
       ·have c1:decide ((r1:Int) < (N:Int))=false:=decide_eq_false (by omega)
        have c1':decide (r1 < N)=false:=decide_eq_false (by omega)
        go_wp2
        go_loopg [5,6] (if n1=0 then 0 else k+1 - 0) (fun kq v5 v6 w'=>∃ (j w1 n1:Nat) (a1:Nat→Int) (tr1:Bool),v5 = .int .i64 (w1:Int)∧v6 = .int .u64 (n1:Int)∧kq=(if n1=0 then 0 else k+1 - j)∧(n1=0∨j≤k)∧2 ^ j ∣ n1∧w1≤800∧n1 < 10*K∧dB w' g a1 N (dp - ((r:Int) - 1)) neg tr1 ∧
         (∀ j,j < w1→48≤a1 j∧a1 j≤57)∧(w1=0→n1=n)∧(1≤w1→a1 0=48+((n / K:Nat):Int))∧Below g _ w')
        case atStart=>exact ⟨0,w1,n1,a1,tr,rfl,rfl,rfl,by omega,by simp,by omega,hn1',hD1,hdig,hw0,hw1,HB1⟩
        case round =>
         clear hkq1 hr1' hwr hwN hn1' hD1 hsame hdig hw0 hw1 HB1 e1 e2 e4 e5 c c1 c1'
         obtain ⟨j,w1,n1,a1,tr1,rfl,rfl,hkq1,hj,hdvd,hwN,hn1',hD1,hdig,hw0,hw1,HB1⟩:=hrel
         have e1:=hD1.je
         have e2:=hD1.frozen
         have e4:=hD1.jC
         have e5:=hD1.jX
         by_cases c:n1=0
         ·subst c
          have c1:decide (0 < ((0:Nat):Int))=false:=rfl
          have hw:1≤w1:=by
           refine Nat.pos_of_ne_zero (fun hz=>?_)
           have:=hw0 hz
           omega
          have hfst:=hw1 hw
          have hq1:1≤n / K:=Nat.div_pos hKn hKpos
          have hq9:n / K≤9:=by
           have:n / K < 10:=by rw [Nat.div_lt_iff_lt_mul hKpos];exact hn
           omega
          have hG:Good a1 (w1:Int):=⟨by omega,by omega,fun i hi=>hdig i (by omega),fun _=>by omega⟩
          go_wp2_with (first | (go_at_call 182;refine (nN _ g a1 _ (dp - ((r:Int) - 1)) neg tr1 (hD1.nM _) hG).mono ?_;rintro e w4 ⟨rfl,nd',dp',hD',hG',hle',hpos',hdp',HB'⟩))
          first | go_end0 | ((try simp only [Exit.inBlock,Exit.then]);refine bodyPost_ret (results_none rfl _ _ _) rfl ?_)
          have hpp:=hpos' (by omega)
          refine ⟨by first | rfl | simp,a1,nd',dp',tr1,hD',hG',hpp.1,by omega,by omega,fun he=>?_,(HB1.setCell (Nat.le_refl _) _).trans HB'⟩
          have hr1:r=1:=by omega
          have hn2:=hr2 hr1
          refine ⟨by rw [hKi];omega,?_⟩
          rw [hfst]
          have:n / K*2≤n:=by
           have h1:n / K*K≤n:=Nat.div_mul_le_self n K
           have h2:2≤K:=by
            have:=Nat.pow_le_pow_right (show 0 < 2 by decide) hk0
            omega
           have h3:n / K*2≤n / K*K:=Nat.mul_le_mul_left _ h2
           omega
          omega
         ·have c1:decide (0 < (n1:Int))=true:=decide_eq_true (by omega)
          have c1':decide (0 < n1)=true:=decide_eq_true (by omega)
          obtain ⟨q,hq⟩:∃ q,n1 / K=q:=⟨_,rfl⟩
          have hq9:q < 10:=by rw [← hq,Nat.div_lt_iff_lt_mul hKpos];exact hn1'
          have hqi:(n1:Int) / (K:Int)=(q:Int):=by rw [← hq];simp
          have hm:bits .and .u64 (n1:Int) ((K:Int) - 1)=((n1 % K:Nat):Int):=oG hK (by omega) hk
          have hmK:n1 % K < K:=Nat.mod_lt _ hKpos
          have hjk:j≤k:=by omega
          have hdm:2 ^ j ∣ n1 % K:=(Nat.dvd_mod_iff (by rw [← hK];exact Nat.pow_dvd_pow 2 hjk)).mpr hdvd
          have hdm2:2 ^ (j+1) ∣ n1 % K*10:=by
           rw [Nat.pow_succ,show n1 % K*10=n1 % K*5*2 by omega]
           exact Nat.mul_dvd_mul (Nat.dvd_trans hdm (Nat.dvd_mul_right _ _)) (Nat.dvd_refl 2)
          have hjlast:j=k→n1 % K=0:=fun hjk=>by
           subst hjk
           rw [hK] at hdvd
           exact Nat.mod_eq_zero_of_dvd hdvd
          obtain ⟨m,hm2⟩:∃ m,n1 % K=m:=⟨_,rfl⟩
          rw [hm2] at hm hmK hdm2 hjlast
          have AA:=ae.mk (And.intro hq (And.intro hm2 (And.intro hkq1 (And.intro hdm2 hjlast))))
          clear hq hm2 hkq1 hdm2 hjlast hdm hdvd
          by_cases c2:w1 < 800
          ·have c2b:decide (w1 < 800)=true:=decide_eq_true c2
           have c2c:decide ((w1:Int) < 800)=true:=decide_eq_true (by omega)
           have e8:=hD1.dig (i:=w1) (by omega)
           have p4:(0≤(w1:Int)):=by omega
           have q4:((w1:Int) < 800):=by omega
           replace p4:=eq_true p4
           replace q4:=eq_true q4
           go_wp2
           go_roundg (if m*10=0 then 0 else k+1 - (j+1))
           case measure =>
            obtain ⟨hq,hm2,hkq1,hdm2,hjlast⟩:=AA.out
            rw [hkq1,if_neg c]
            split <;> omega
           case rel =>
            obtain ⟨hq,hm2,hkq1,hdm2,hjlast⟩:=AA.out
            refine ⟨j+1,w1+1,m*10,upd a1 w1 ((q:Int)+48),tr1,by first | rfl | (congr 1;omega),by first | rfl | (congr 1;omega),rfl,by (by_cases hjk2:j=k <;> omega),hdm2,by omega,by omega,hD1.lD (by omega) _,fun j hj=>?_,fun h0=>by omega,fun _=>?_,HB1.setCell (Nat.le_refl _) _⟩
            ·by_cases hj2:j=w1
             ·simp only [upd,if_pos hj2];omega
             ·rw [upd,if_neg hj2];exact hdig j (by omega)
            ·by_cases hz:w1=0
             ·subst hz
              simp only [upd,if_true]
              rw [hw0 rfl] at hq
              rw [hq];omega
             ·rw [upd,if_neg (by omega)];exact hw1 (by omega)
          ·have c2b:decide (w1 < 800)=false:=decide_eq_false c2
           have c2c:decide ((w1:Int) < 800)=false:=decide_eq_false (by omega)
           by_cases c3:0 < q
           ·have c3b:decide (0 < q)=true:=decide_eq_true c3
            have c3c:decide (0 < (q:Int))=true:=decide_eq_true (by omega)
            go_wp2
            go_roundg (if m*10=0 then 0 else k+1 - (j+1))
            case measure =>
             obtain ⟨hq,hm2,hkq1,hdm2,hjlast⟩:=AA.out
             rw [hkq1,if_neg c]
             split <;> omega
            case rel =>
             obtain ⟨hq,hm2,hkq1,hdm2,hjlast⟩:=AA.out
             exact ⟨j+1,w1,m*10,a1,true,rfl,by first | rfl | (congr 1;omega),rfl,by (by_cases hjk2:j=k <;> omega),hdm2,by omega,by omega,hD1.tX _,hdig,fun h0=>by omega,hw1,HB1.setCell (Nat.le_refl _) _⟩
           ·have c3b:decide (0 < q)=false:=decide_eq_false c3
            have c3c:decide (0 < (q:Int))=false:=decide_eq_false (by omega)
            go_wp2
            go_roundg (if m*10=0 then 0 else k+1 - (j+1))
            case measure =>
             obtain ⟨hq,hm2,hkq1,hdm2,hjlast⟩:=AA.out
             rw [hkq1,if_neg c]
             split <;> omega
            case rel =>
             obtain ⟨hq,hm2,hkq1,hdm2,hjlast⟩:=AA.out
             exact ⟨j+1,w1,m*10,a1,tr1,rfl,by first | rfl | (congr 1;omega),rfl,by (by_cases hjk2:j=k <;> omega),hdm2,by omega,by omega,hD1,hdig,fun h0=>by omega,hw1,HB1⟩
   ·have c2b:decide (N≤r)=false:=decide_eq_false c2
    have e6:=hD.dig (i:=r) (by omega)
    have e7:=h.dig r (by omega)
    have p3:(0≤(r:Int)):=by omega
    have q3:((r:Int) < 800):=by omega
    replace p3:=eq_true p3
    replace q3:=eq_true q3
    go_wp2
    go_roundg (N - (r+1))
    case measure=>omega
    case rel =>
     refine ⟨r+1,n*10+(a r - 48).toNat,by first | rfl | (congr 1;omega),by first | rfl | (congr 1;omega),rfl,by omega,by omega,by omega,fun h1=>?_,fun h1=>?_,rfl⟩
     ·by_cases hr0':r=0
      ·have:=h.first hnd
       subst hr0'
       omega
      ·omega
     ·have h2:r=0:=by omega
      have h3:=hr0 h2
      subst h2
      omega
  ·have c1:((n:Int) / (K:Int) == 0)=false:=zI hKpos (by omega)
   have hr864:r≤864:=by omega
   have hKn:K≤n:=by omega
   have w3:IntKind.i64.wrap ((r:Int) - 1)=(r:Int) - 1:=by rw [bW];unfold wrap64;omega
   have w4:IntKind.i64.wrap (dp - ((r:Int) - 1))=dp - ((r:Int) - 1):=by rw [bW];unfold wrap64;omega
   go_wp2
   go_loopg [4,5,6] (N - r) (fun kq v4 v5 v6 w'=>∃ (r1 w1 n1:Nat) (a1:Nat→Int),v4 = .int .i64 (r1:Int)∧v5 = .int .i64 (w1:Int)∧v6 = .int .u64 (n1:Int)∧kq=N - r1∧r1≤864∧w1 < r1∧w1≤N∧n1 < 10*K∧dB w' g a1 N (dp - ((r:Int) - 1)) neg tr ∧
    (∀ j,w1≤j→a1 j=a j)∧(∀ j,j < w1→48≤a1 j∧a1 j≤57)∧(w1=0→n1=n)∧(1≤w1→a1 0=48+((n / K:Nat):Int))∧Below g _ w')
   case atStart=>exact ⟨r,0,n,a,rfl,rfl,rfl,by omega,by omega,by omega,by omega,by omega,hD.oM _,fun _ _=>rfl,fun _ h1=>by omega,fun _=>rfl,fun h1=>by omega,HB.setCell (Nat.le_refl _) _⟩
   case round =>
    obtain ⟨r1,w1,n1,a1,rfl,rfl,rfl,hkq1,hr1',hwr,hwN,hn1',hD1,hsame,hdig,hw0,hw1,HB1⟩:=hrel
    have e1:=hD1.je
    have e2:=hD1.frozen
    have e4:=hD1.jC
    have e5:=hD1.jX
    by_cases c:r1 < N
    ·have c1:decide ((r1:Int) < (N:Int))=true:=decide_eq_true (by omega)
     have c1':decide (r1 < N)=true:=decide_eq_true (by omega)
     have e6:=hD1.dig (i:=r1) (by omega)
     rw [hsame r1 (by omega)] at e6
     have e7:=h.dig r1 (by omega)
     have e8:=hD1.dig (i:=w1) (by omega)
     have p3:(0≤(r1:Int)):=by omega
     have q3:((r1:Int) < 800):=by omega
     have p4:(0≤(w1:Int)):=by omega
     have q4:((w1:Int) < 800):=by omega
     replace p3:=eq_true p3
     replace q3:=eq_true q3
     replace p4:=eq_true p4
     replace q4:=eq_true q4
     obtain ⟨q,hq⟩:∃ q,n1 / K=q:=⟨_,rfl⟩
     have hq9:q < 10:=by rw [← hq,Nat.div_lt_iff_lt_mul hKpos];exact hn1'
     have hqi:(n1:Int) / (K:Int)=(q:Int):=by rw [← hq];simp
     have hm:bits .and .u64 (n1:Int) ((K:Int) - 1)=((n1 % K:Nat):Int):=oG hK (by omega) hk
     have hmK:n1 % K < K:=Nat.mod_lt _ hKpos
     obtain ⟨m,hm2⟩:∃ m,n1 % K=m:=⟨_,rfl⟩
     rw [hm2] at hm hmK
     have AA:=ae.mk (And.intro hq hm2)
     clear hq hm2
     go_wp2
     go_roundg (N - (r1+1))
     case measure=>omega
     case rel =>
      refine ⟨r1+1,w1+1,m*10+(a r1 - 48).toNat,upd a1 w1 ((q:Int)+48),by first | rfl | (congr 1;omega),by first | rfl | (congr 1;omega),by first | rfl | (congr 1;omega),rfl,by omega,by omega,by omega,by omega,hD1.lD (by omega) _,fun j hj=>?_,fun j hj=>?_,fun h0=>by omega,fun _=>?_,HB1.setCell (Nat.le_refl _) _⟩
      ·rw [upd,if_neg (by omega)];exact hsame j (by omega)
      ·by_cases hj2:j=w1
       ·simp only [upd,if_pos hj2];omega
       ·rw [upd,if_neg hj2];exact hdig j (by omega)
      ·by_cases hz:w1=0
       ·subst hz
        simp only [upd,if_true]
        have:=AA.out.1
        rw [hw0 rfl] at this
        rw [this];omega
       ·rw [upd,if_neg (by omega)];exact hw1 (by omega)
    ·have c1:decide ((r1:Int) < (N:Int))=false:=decide_eq_false (by omega)
     have c1':decide (r1 < N)=false:=decide_eq_false (by omega)
     go_wp2
     go_loopg [5,6] (if n1=0 then 0 else k+1 - 0) (fun kq v5 v6 w'=>∃ (j w1 n1:Nat) (a1:Nat→Int) (tr1:Bool),v5 = .int .i64 (w1:Int)∧v6 = .int .u64 (n1:Int)∧kq=(if n1=0 then 0 else k+1 - j)∧(n1=0∨j≤k)∧2 ^ j ∣ n1∧w1≤800∧n1 < 10*K∧dB w' g a1 N (dp - ((r:Int) - 1)) neg tr1 ∧
      (∀ j,j < w1→48≤a1 j∧a1 j≤57)∧(w1=0→n1=n)∧(1≤w1→a1 0=48+((n / K:Nat):Int))∧Below g _ w')
     case atStart=>exact ⟨0,w1,n1,a1,tr,rfl,rfl,rfl,by omega,by simp,by omega,hn1',hD1,hdig,hw0,hw1,HB1⟩
     case round =>
      clear hkq1 hr1' hwr hwN hn1' hD1 hsame hdig hw0 hw1 HB1 e1 e2 e4 e5 c c1 c1'
      obtain ⟨j,w1,n1,a1,tr1,rfl,rfl,hkq1,hj,hdvd,hwN,hn1',hD1,hdig,hw0,hw1,HB1⟩:=hrel
      have e1:=hD1.je
      have e2:=hD1.frozen
      have e4:=hD1.jC
      have e5:=hD1.jX
      by_cases c:n1=0
      ·subst c
       have c1:decide (0 < ((0:Nat):Int))=false:=rfl
       have hw:1≤w1:=by
        refine Nat.pos_of_ne_zero (fun hz=>?_)
        have:=hw0 hz
        omega
       have hfst:=hw1 hw
       have hq1:1≤n / K:=Nat.div_pos hKn hKpos
       have hq9:n / K≤9:=by
        have:n / K < 10:=by rw [Nat.div_lt_iff_lt_mul hKpos];exact hn
        omega
       have hG:Good a1 (w1:Int):=⟨by omega,by omega,fun i hi=>hdig i (by omega),fun _=>by omega⟩
       go_wp2_with (first | (go_at_call 182;refine (nN _ g a1 _ (dp - ((r:Int) - 1)) neg tr1 (hD1.nM _) hG).mono ?_;rintro e w4 ⟨rfl,nd',dp',hD',hG',hle',hpos',hdp',HB'⟩))
       first | go_end0 | ((try simp only [Exit.inBlock,Exit.then]);refine bodyPost_ret (results_none rfl _ _ _) rfl ?_)
       have hpp:=hpos' (by omega)
       refine ⟨by first | rfl | simp,a1,nd',dp',tr1,hD',hG',hpp.1,by omega,by omega,fun he=>?_,(HB1.setCell (Nat.le_refl _) _).trans HB'⟩
       have hr1:r=1:=by omega
       have hn2:=hr2 hr1
       refine ⟨by rw [hKi];omega,?_⟩
       rw [hfst]
       have:n / K*2≤n:=by
        have h1:n / K*K≤n:=Nat.div_mul_le_self n K
        have h2:2≤K:=by
         have:=Nat.pow_le_pow_right (show 0 < 2 by decide) hk0
         omega
        have h3:n / K*2≤n / K*K:=Nat.mul_le_mul_left _ h2
        omega
       omega
      ·have c1:decide (0 < (n1:Int))=true:=decide_eq_true (by omega)
       have c1':decide (0 < n1)=true:=decide_eq_true (by omega)
       obtain ⟨q,hq⟩:∃ q,n1 / K=q:=⟨_,rfl⟩
       have hq9:q < 10:=by rw [← hq,Nat.div_lt_iff_lt_mul hKpos];exact hn1'
       have hqi:(n1:Int) / (K:Int)=(q:Int):=by rw [← hq];simp
       have hm:bits .and .u64 (n1:Int) ((K:Int) - 1)=((n1 % K:Nat):Int):=oG hK (by omega) hk
       have hmK:n1 % K < K:=Nat.mod_lt _ hKpos
       have hjk:j≤k:=by omega
       have hdm:2 ^ j ∣ n1 % K:=(Nat.dvd_mod_iff (by rw [← hK];exact Nat.pow_dvd_pow 2 hjk)).mpr hdvd
       have hdm2:2 ^ (j+1) ∣ n1 % K*10:=by
        rw [Nat.pow_succ,show n1 % K*10=n1 % K*5*2 by omega]
        exact Nat.mul_dvd_mul (Nat.dvd_trans hdm (Nat.dvd_mul_right _ _)) (Nat.dvd_refl 2)
       have hjlast:j=k→n1 % K=0:=fun hjk=>by
        subst hjk
        rw [hK] at hdvd
        exact Nat.mod_eq_zero_of_dvd hdvd
       obtain ⟨m,hm2⟩:∃ m,n1 % K=m:=⟨_,rfl⟩
       rw [hm2] at hm hmK hdm2 hjlast
       have AA:=ae.mk (And.intro hq (And.intro hm2 (And.intro hkq1 (And.intro hdm2 hjlast))))
       clear hq hm2 hkq1 hdm2 hjlast hdm hdvd
       by_cases c2:w1 < 800
       ·have c2b:decide (w1 < 800)=true:=decide_eq_true c2
        have c2c:decide ((w1:Int) < 800)=true:=decide_eq_true (by omega)
        have e8:=hD1.dig (i:=w1) (by omega)
        have p4:(0≤(w1:Int)):=by omega
        have q4:((w1:Int) < 800):=by omega
        replace p4:=eq_true p4
        replace q4:=eq_true q4
        go_wp2
        go_roundg (if m*10=0 then 0 else k+1 - (j+1))
        case measure =>
         obtain ⟨hq,hm2,hkq1,hdm2,hjlast⟩:=AA.out
         rw [hkq1,if_neg c]
         split <;> omega
        case rel =>
         obtain ⟨hq,hm2,hkq1,hdm2,hjlast⟩:=AA.out
         refine ⟨j+1,w1+1,m*10,upd a1 w1 ((q:Int)+48),tr1,by first | rfl | (congr 1;omega),by first | rfl | (congr 1;omega),rfl,by (by_cases hjk2:j=k <;> omega),hdm2,by omega,by omega,hD1.lD (by omega) _,fun j hj=>?_,fun h0=>by omega,fun _=>?_,HB1.setCell (Nat.le_refl _) _⟩
         ·by_cases hj2:j=w1
          ·simp only [upd,if_pos hj2];omega
          ·rw [upd,if_neg hj2];exact hdig j (by omega)
         ·by_cases hz:w1=0
          ·subst hz
           simp only [upd,if_true]
           rw [hw0 rfl] at hq
           rw [hq];omega
          ·rw [upd,if_neg (by omega)];exact hw1 (by omega)
       ·have c2b:decide (w1 < 800)=false:=decide_eq_false c2
        have c2c:decide ((w1:Int) < 800)=false:=decide_eq_false (by omega)
        by_cases c3:0 < q
        ·have c3b:decide (0 < q)=true:=decide_eq_true c3
         have c3c:decide (0 < (q:Int))=true:=decide_eq_true (by omega)
         go_wp2
         go_roundg (if m*10=0 then 0 else k+1 - (j+1))
         case measure =>
          obtain ⟨hq,hm2,hkq1,hdm2,hjlast⟩:=AA.out
          rw [hkq1,if_neg c]
          split <;> omega
         case rel =>
          obtain ⟨hq,hm2,hkq1,hdm2,hjlast⟩:=AA.out
          exact ⟨j+1,w1,m*10,a1,true,rfl,by first | rfl | (congr 1;omega),rfl,by (by_cases hjk2:j=k <;> omega),hdm2,by omega,by omega,hD1.tX _,hdig,fun h0=>by omega,hw1,HB1.setCell (Nat.le_refl _) _⟩
        ·have c3b:decide (0 < q)=false:=decide_eq_false c3
         have c3c:decide (0 < (q:Int))=false:=decide_eq_false (by omega)
         go_wp2
         go_roundg (if m*10=0 then 0 else k+1 - (j+1))
         case measure =>
          obtain ⟨hq,hm2,hkq1,hdm2,hjlast⟩:=AA.out
          rw [hkq1,if_neg c]
          split <;> omega
         case rel =>
          obtain ⟨hq,hm2,hkq1,hdm2,hjlast⟩:=AA.out
          exact ⟨j+1,w1,m*10,a1,tr1,rfl,by first | rfl | (congr 1;omega),rfl,by (by_cases hjk2:j=k <;> omega),hdm2,by omega,by omega,hD1,hdig,fun h0=>by omega,hw1,HB1⟩
attribute [local go_sem] add0
theorem iL (w:World) (g k:Nat) (a:Nat→Int) (nd dp:Int) (neg tr:Bool) (hD:dB w g a nd dp neg tr) (h:Good a nd) (hnd:0 < nd) (hk0:0 < k) (hk:k < 61)
 (hdp:-1000000000≤dp∧dp≤1000000000) (hT:uj w) :
 Calls Tryz.prog 169 #[.pointer (some ⟨g,0,none⟩),.int .i64 k] w fun e w'=>e = .returned (.tuple #[])∧∃ a' nd' dp' tr',dB w' g a' nd' dp' neg tr'∧Good a' nd'∧0 < nd' ∧
  dp≤dp'∧dp'≤dp+19∧(dp'=dp→a 0 < a' 0)∧Below g w w':=by
 have e1:=hD.je
 have c1:(nd == 0)=false:=beq_eq_false_iff_ne.mpr (by omega)
 have c2:decide (0 < (k:Int))=true:=decide_eq_true (by omega)
 have c3:decide (60 < (k:Int))=false:=decide_eq_false (by omega)
 have c3':decide (60 < k)=false:=decide_eq_false (by omega)
 have hw:IntKind.u64.wrap (k:Int)=(k:Int):=kR (by omega) (by omega)
 go_enter Tryz.func169,Tryz.ntmps169
 go_wp2
 go_loopg [1] 0 (fun kq v1 w'=>v1 = .int .i64 (k:Int)∧w'=w)
 case atStart=>exact ⟨rfl,rfl⟩
 case round =>
  obtain ⟨rfl,rfl⟩:=hrel
  go_wp2_with (first | (go_at_call 174;refine (vI _ g k a nd dp neg tr hD h hnd hk0 hk hdp hT).mono ?_;rintro e w4 ⟨rfl,hR⟩))
  first | go_end0 | ((try simp only [Exit.inBlock,Exit.then]);refine bodyPost_ret (results_none rfl _ _ _) rfl ?_)
  exact ⟨by first | rfl | simp,hR⟩
theorem ru (w:World) (g:Nat) (a:Nat→Int) (nd dp:Int) (neg tr:Bool) (hD:dB w g a nd dp neg tr) (h:Good a nd) (hnd:0 < nd)
 (hdp:-1000000000≤dp∧dp≤1000000000) :
 Calls Tryz.prog 175 #[.pointer (some ⟨g,0,none⟩),.int .u64 60] w fun e w'=>e = .returned (.tuple #[])∧∃ a' nd' dp' tr',dB w' g a' nd' dp' neg tr'∧Good a' nd'∧0 < nd' ∧
  dp'≤dp∧dp≤dp'+1000∧Below g w w':=by
 obtain ⟨k,hk⟩:∃ k:Nat,k=60:=⟨_,rfl⟩
 have hR:=pq w g k a nd dp neg tr hD h hnd (by omega) (by omega) hdp
 rw [show (k:Int)=60 by omega] at hR
 refine hR.mono ?_
 rintro e w4 ⟨h1,a2,nd2,dp2,tr2,hD2,hG2,hnd2,hle2,hge2,_,HB2⟩
 exact ⟨h1,a2,nd2,dp2,tr2,hD2,hG2,hnd2,hle2,hge2,HB2⟩
theorem ji (w:World) (g:Nat) (k:Int) (a:Nat→Int) (nd dp:Int) (neg tr:Bool) (hD:dB w g a nd dp neg tr) (h:Good a nd) (hnd:0 < nd) (hk0:k < 0) (hk:-300000≤k)
 (hdp:-600000000≤dp∧dp≤1000000000) :
 Calls Tryz.prog 169 #[.pointer (some ⟨g,0,none⟩),.int .i64 k] w fun e w'=>e = .returned (.tuple #[])∧∃ a' nd' dp' tr',dB w' g a' nd' dp' neg tr'∧Good a' nd'∧0 < nd' ∧
  dp'≤dp∧dp - 301000000≤dp'∧(-60≤k→dp≤dp'+1000∧(dp'=dp→(2:Int) ^ (-k).toNat≤a 0 - 48∧2*(a' 0 - 48)≤a 0 - 48))∧Below g w w':=by
 have HB:=Below.refl g w
 have e1:=hD.je
 have c1:(nd == 0)=false:=beq_eq_false_iff_ne.mpr (by omega)
 have c2:decide (0 < k)=false:=decide_eq_false (by omega)
 have c2':decide (k < 0)=true:=decide_eq_true (by omega)
 go_enter Tryz.func169,Tryz.ntmps169
 go_wp2
 go_loopg [1] (-k).toNat (fun kq v1 w'=>∃ (k1:Int) (a1:Nat→Int) (nd1 dp1:Int) (tr1:Bool),v1 = .int .i64 k1∧kq=(-k1).toNat∧k1 < 0∧k≤k1∧dB w' g a1 nd1 dp1 neg tr1∧Good a1 nd1∧0 < nd1∧dp1≤dp∧dp≤dp1+1000*(k1 - k)∧(k1=k→a1=a∧dp1=dp)∧(k1≠k→k < -60)∧Below g w w')
 case atStart=>exact ⟨k,a,nd,dp,tr,rfl,rfl,hk0,Int.le_refl _,hD,h,hnd,Int.le_refl _,by omega,fun _=>⟨rfl,rfl⟩,fun h=>absurd rfl h,HB⟩
 case round =>
  obtain ⟨k1,a1,nd1,dp1,tr1,rfl,hkq,hk1,hkk,hD1,hG1,hnd1,hle,hge,hsame,hne,HB1⟩:=hrel
  have w1:IntKind.i64.wrap (-k1)=-k1:=by rw [bW];unfold wrap64;omega
  by_cases c3:k1 < -60
  ·have c3b:decide (k1 < -60)=true:=decide_eq_true c3
   have hR:=ru wr g a1 nd1 dp1 neg tr1 hD1 hG1 hnd1 (by omega)
   go_wp2_with (first | (go_at_call 175;refine hR.mono ?_;rintro e w4 ⟨rfl,a2,nd2,dp2,tr2,hD2,hG2,hnd2,hle2,hge2,HB2⟩))
   go_roundg (-(k1+60)).toNat
   case measure=>omega
   case rel=>exact ⟨k1+60,a2,nd2,dp2,tr2,by first | rfl | (congr 1;omega),rfl,by omega,by omega,hD2,hG2,hnd2,by omega,by omega,fun he=>by omega,fun _=>by omega,HB1.trans HB2⟩
  ·have c3b:decide (k1 < -60)=false:=decide_eq_false c3
   obtain ⟨m,rfl⟩:∃ m:Nat,k1=-(m:Int):=⟨(-k1).toNat,by omega⟩
   have hw:IntKind.u64.wrap (m:Int)=(m:Int):=kR (by omega) (by omega)
   have hw2:IntKind.i64.wrap (m:Int)=(m:Int):=by rw [bW];unfold wrap64;omega
   clear w1
   have hR:=pq wr g m a1 nd1 dp1 neg tr1 hD1 hG1 hnd1 (by omega) (by omega) (by omega)
   go_wp2_with (first | (go_at_call 175;refine hR.mono ?_;rintro e w4 ⟨rfl,a2,nd2,dp2,tr2,hD2,hG2,hnd2,hle2,hge2,hx,HB2⟩))
   first | go_end0 | ((try simp only [Exit.inBlock,Exit.then]);refine bodyPost_ret (results_none rfl _ _ _) rfl ?_)
   refine ⟨by first | rfl | simp,a2,nd2,dp2,tr2,hD2,hG2,hnd2,by omega,by omega,fun hk60=>?_,HB1.trans HB2⟩
   have hkk1:-(m:Int)=k:=by
    by_cases hq:-(m:Int)=k
    ·exact hq
    ·have:=hne hq;omega
   obtain ⟨ha,hd⟩:=hsame hkk1
   subst hkk1 ha hd
   rw [Int.neg_neg,Int.toNat_natCast]
   exact ⟨by omega,hx⟩
attribute [local go_sem] add0
theorem ny (w:World) (g:Nat) (i:Int) (a:Nat→Int) (nd dp:Int) (neg tr:Bool) (hD:dB w g a nd dp neg tr) (h:Good a nd) (hi:-1000000000≤i∧i≤1000000000) :
 Calls Tryz.prog 176 #[.pointer (some ⟨g,0,none⟩),.int .i64 i] w fun e w'=>sU e∧ai w w':=by
 have e1:=hD.je
 have e2:=hD.frozen
 have e5:=hD.jX
 have hN:=h.high
 by_cases c1:i < 0
 ·have c1b:decide (i < 0)=true:=decide_eq_true c1
  go_enter Tryz.func176,Tryz.ntmps176
  go_wp2
  repeat (go_quiet (fail);try go_wp2)
  go_ret
  exact ⟨⟨_,rfl⟩,by repeat (first | exact ai.refl _ | apply ai.step)⟩
 ·have c1b:decide (i < 0)=false:=decide_eq_false c1
  by_cases c2:nd≤i
  ·have c2b:decide (nd≤i)=true:=decide_eq_true c2
   go_enter Tryz.func176,Tryz.ntmps176
   go_wp2
   repeat (go_quiet (fail);try go_wp2)
   go_ret
   exact ⟨⟨_,rfl⟩,by repeat (first | exact ai.refl _ | apply ai.step)⟩
  ·have c2b:decide (nd≤i)=false:=decide_eq_false c2
   obtain ⟨j,rfl⟩:∃ j:Nat,i=j:=⟨i.toNat,by omega⟩
   have e6:=hD.dig (i:=j) (by omega)
   have e7:=h.dig j (by omega)
   have p3:(0≤(j:Int)):=by omega
   have q3:((j:Int) < 800):=by omega
   replace p3:=eq_true p3
   replace q3:=eq_true q3
   by_cases c3:a j=53
   ·have c3b:(a j == 53)=true:=beq_iff_eq.mpr c3
    by_cases c4:(j:Int)+1=nd
    ·have c4b:((j:Int)+1 == nd)=true:=beq_iff_eq.mpr c4
     cases tr with
     | true =>
       go_enter Tryz.func176,Tryz.ntmps176
       go_wp2
       repeat (go_quiet (fail);try go_wp2)
       go_ret
       exact ⟨⟨_,rfl⟩,by repeat (first | exact ai.refl _ | apply ai.step)⟩
     | false =>
       by_cases c5:0 < j
       ·have c5b:decide (0 < (j:Int))=true:=decide_eq_true (by omega)
        have c5c:decide (0 < j)=true:=decide_eq_true (by omega)
        obtain ⟨m,rfl⟩:∃ m,j=m+1:=⟨j - 1,by omega⟩
        have e8:=hD.dig (i:=m) (by omega)
        have e9:=h.dig m (by omega)
        have w1:IntKind.i64.wrap (((m+1:Nat):Int) - 1)=(m:Int):=by rw [bW];unfold wrap64;omega
        have p4:(0≤(m:Int)):=by omega
        have q4:((m:Int) < 800):=by omega
        replace p4:=eq_true p4
        replace q4:=eq_true q4
        go_enter Tryz.func176,Tryz.ntmps176
        go_wp2
        repeat (go_quiet (fail);try go_wp2)
        go_ret
        exact ⟨⟨_,rfl⟩,by repeat (first | exact ai.refl _ | apply ai.step)⟩
       ·have hj0:j=0:=by omega
        subst hj0
        have c5b:decide (0 < ((0:Nat):Int))=false:=rfl
        go_enter Tryz.func176,Tryz.ntmps176
        go_wp2
        repeat (go_quiet (fail);try go_wp2)
        go_ret
        exact ⟨⟨_,rfl⟩,by repeat (first | exact ai.refl _ | apply ai.step)⟩
    ·have c4b:((j:Int)+1 == nd)=false:=beq_eq_false_iff_ne.mpr c4
     go_enter Tryz.func176,Tryz.ntmps176
     go_wp2
     repeat (go_quiet (fail);try go_wp2)
     go_ret
     exact ⟨⟨_,rfl⟩,by repeat (first | exact ai.refl _ | apply ai.step)⟩
   ·have c3b:(a j == 53)=false:=beq_eq_false_iff_ne.mpr c3
    go_enter Tryz.func176,Tryz.ntmps176
    go_wp2
    repeat (go_quiet (fail);try go_wp2)
    go_ret
    exact ⟨⟨_,rfl⟩,by repeat (first | exact ai.refl _ | apply ai.step)⟩
attribute [local go_sem] add0
theorem fB (x:Int):0≤IntKind.u64.wrap x∧IntKind.u64.wrap x < 18446744073709551616:=by
 simp [IntKind.wrap,IntKind.bits,IntKind.signed];omega
theorem gG (w:World) (g:Nat) (a:Nat→Int) (nd dp:Int) (neg tr:Bool) (hD:dB w g a nd dp neg tr) (h:Good a nd) (hdp:-1000000000≤dp∧dp≤1000000000) :
 Calls Tryz.prog 170 #[.pointer (some ⟨g,0,none⟩)] w fun e w'=>D6 e∧ai w w':=by
 have e1:=hD.je
 have e2:=hD.frozen
 have e4:=hD.jC
 have hN:=h.high
 by_cases c1:20 < dp
 ·have c1b:decide (20 < dp)=true:=decide_eq_true c1
  go_enter Tryz.func170,Tryz.ntmps170
  go_wp2
  repeat (go_quiet (fail);try go_wp2)
  go_ret
  exact ⟨⟨_,rfl,by omega,by omega⟩,by repeat (first | exact ai.refl _ | apply ai.step)⟩
 ·have c1b:decide (20 < dp)=false:=decide_eq_false c1
  go_enter Tryz.func170,Tryz.ntmps170
  go_wp2
  go_loopg [3,4] 21 (fun kq v3 v4 w'=>∃ (i:Nat) (n:Int),v3 = .int .i64 (i:Int)∧v4 = .int .u64 n∧kq=21 - i∧(i=0∨((i:Int)≤dp∧(i:Int)≤nd))∧0≤n∧n < 18446744073709551616∧ai w w')
  case atStart=>exact ⟨0,0,rfl,rfl,rfl,by omega,by omega,by omega,by repeat (first | exact ai.refl _ | apply ai.step)⟩
  case round =>
   obtain ⟨i,n,rfl,rfl,hkq,hi,hn0,hn1,hW⟩:=hrel
   obtain ⟨m,rfl⟩:=hW
   by_cases c2:(i:Int) < dp∧(i:Int) < nd
   ·have c2b:decide ((i:Int) < dp)=true:=decide_eq_true c2.1
    have c2c:decide ((i:Int) < nd)=true:=decide_eq_true c2.2
    have e6:=hD.dig (i:=i) (by omega)
    have e7:=h.dig i (by omega)
    have p3:(0≤(i:Int)):=by omega
    have q3:((i:Int) < 800):=by omega
    replace p3:=eq_true p3
    replace q3:=eq_true q3
    go_wp2
    repeat (go_quiet (fail);try go_wp2)
    go_roundg (21 - (i+1))
    case measure=>omega
    case rel=>exact ⟨i+1,_,by first | rfl | (congr 1;omega),rfl,rfl,by omega,(fB _).1,(fB _).2,by repeat (first | exact ai.refl _ | apply ai.step)⟩
   ·by_cases c4:(i:Int) < dp
    ·have c4b:decide ((i:Int) < dp)=true:=decide_eq_true c4
     have c4c:decide ((i:Int) < nd)=false:=decide_eq_false (by omega)
     go_wp2
     repeat (go_quiet (fail);try go_wp2)
     go_loopg [3,4] (21 - i) (fun kq v3 v4 w'=>∃ (i:Nat) (n:Int),v3 = .int .i64 (i:Int)∧v4 = .int .u64 n∧kq=21 - i∧(i=0∨(i:Int)≤dp)∧0≤n∧n < 18446744073709551616∧ai w w')
     case atStart=>exact ⟨i,n,rfl,rfl,rfl,by omega,by omega,by omega,by repeat (first | exact ai.refl _ | apply ai.step)⟩
     case round =>
      clear hkq hi hn0 hn1
      obtain ⟨i,n,rfl,rfl,hkq,hi,hn0,hn1,hW⟩:=hrel
      obtain ⟨m1,rfl⟩:=hW
      by_cases c2:(i:Int) < dp
      ·have c2b:decide ((i:Int) < dp)=true:=decide_eq_true c2
       go_wp2
       repeat (go_quiet (fail);try go_wp2)
       go_roundg (21 - (i+1))
       case measure=>omega
       case rel=>exact ⟨i+1,_,by first | rfl | (congr 1;omega),rfl,rfl,by omega,(fB _).1,(fB _).2,by repeat (first | exact ai.refl _ | apply ai.step)⟩
      ·have c2b:decide ((i:Int) < dp)=false:=decide_eq_false c2
       go_wp2_with (first | (go_at_call 176;refine (ny _ g dp a nd dp neg tr (hD.drewN' _) h hdp).mono ?_;rintro e w4 ⟨⟨b,rfl⟩,⟨m2,rfl⟩⟩))
       all_goals go_ret
       all_goals exact ⟨⟨_,rfl,by first | omega | exact (fB _).1,by first | omega | exact (fB _).2⟩,by repeat (first | exact ai.refl _ | apply ai.step)⟩
    ·have c4b:decide ((i:Int) < dp)=false:=decide_eq_false c4
     go_wp2
     repeat (go_quiet (fail);try go_wp2)
     go_loopg [3,4] (21 - i) (fun kq v3 v4 w'=>∃ (i:Nat) (n:Int),v3 = .int .i64 (i:Int)∧v4 = .int .u64 n∧kq=21 - i∧(i=0∨(i:Int)≤dp)∧0≤n∧n < 18446744073709551616∧ai w w')
     case atStart=>exact ⟨i,n,rfl,rfl,rfl,by omega,by omega,by omega,by repeat (first | exact ai.refl _ | apply ai.step)⟩
     case round =>
      clear hkq hi hn0 hn1
      obtain ⟨i,n,rfl,rfl,hkq,hi,hn0,hn1,hW⟩:=hrel
      obtain ⟨m1,rfl⟩:=hW
      by_cases c2:(i:Int) < dp
      ·have c2b:decide ((i:Int) < dp)=true:=decide_eq_true c2
       go_wp2
       repeat (go_quiet (fail);try go_wp2)
       go_roundg (21 - (i+1))
       case measure=>omega
       case rel=>exact ⟨i+1,_,by first | rfl | (congr 1;omega),rfl,rfl,by omega,(fB _).1,(fB _).2,by repeat (first | exact ai.refl _ | apply ai.step)⟩
      ·have c2b:decide ((i:Int) < dp)=false:=decide_eq_false c2
       go_wp2_with (first | (go_at_call 176;refine (ny _ g dp a nd dp neg tr (hD.drewN' _) h hdp).mono ?_;rintro e w4 ⟨⟨b,rfl⟩,⟨m2,rfl⟩⟩))
       all_goals go_ret
       all_goals exact ⟨⟨_,rfl,by first | omega | exact (fB _).1,by first | omega | exact (fB _).2⟩,by repeat (first | exact ai.refl _ | apply ai.step)⟩
open Go Go.RowKit Go.Proofs.YtpgfjbimodnkeaaGreatDoorW.PrintWords
def nC (i:Nat):Nat:=[1,3,6,9,13,16,19,23,26].getD i 0
structure Tabs (B:Nat) (w:World):Prop where
 low:14≤B
 size:B≤w.heap.size
 Du:∃ t v,w.cell? ⟨1,0,none⟩=some (.iface t v)
 Dv:∃ t v,w.cell? ⟨2,0,none⟩=some (.iface t v)
 opt:w.cell? ⟨4,0,none⟩=some (.bool true)
 mr:w.cell? ⟨5,0,none⟩=some (.int .u64 52)
 mW:w.cell? ⟨5,1,none⟩=some (.int .u64 11)
 bias:w.cell? ⟨5,2,none⟩=some (.int .i64 (-1023))
 pow:∃ (b:Addr) (cc:Nat),b.block < B∧w.cell? ⟨7,0,none⟩=some (.slice (some b) 9 cc)∧∀ i,i < 9→w.cell? (b.add i)=some (.int .i64 (nC i:Nat))
 ten:∃ (b:Addr) (cc:Nat),b.block < B∧w.cell? ⟨8,0,none⟩=some (.slice (some b) 23 cc)∧∀ i,i < 23→∃ x,w.cell? (b.add i)=some (.float .f64 x)
 tab:∀ i,i < 1392→∃ x:Int,0≤x∧x < 18446744073709551616∧w.cell? ⟨9,i,none⟩=some (.int .u64 x)
 left:∃ (b:Addr) (cc:Nat),b.block < B∧w.cell? ⟨10,0,none⟩=some (.slice (some b) 61 cc)∧∀ k,k < 61 →
  w.cell? (b.add (k*2))=some (.int .i64 ((fG k).1:Nat))∧w.cell? ⟨(b.add (k*2)).block,(b.add (k*2)).off+1,none⟩=some (.string (iW k))
theorem Tabs.below {B:Nat} {w w1:World} (h:Tabs B w) (hB:Below B w w1):Tabs B w1:=by
 have hl:=h.low
 have hc:∀ {p:Addr} {v:Value},p.block < B→w.cell? p=some v→w1.cell? p=some v:=fun hp hv=>(hB.cell hp).trans hv
 refine ⟨h.low,Nat.le_trans h.size hB.size,?_,?_,hc (by show 4 < B;omega) h.opt,hc (by show 5 < B;omega) h.mr,hc (by show 5 < B;omega) h.mW,hc (by show 5 < B;omega) h.bias,?_,?_,fun i hi=>?_,?_⟩
 ·obtain ⟨t,v,h1⟩:=h.Du
  exact ⟨t,v,hc (by show 1 < B;omega) h1⟩
 ·obtain ⟨t,v,h1⟩:=h.Dv
  exact ⟨t,v,hc (by show 2 < B;omega) h1⟩
 ·obtain ⟨b,cc,h1,h2,h3⟩:=h.pow
  exact ⟨b,cc,h1,hc (by show 7 < B;omega) h2,fun i hi=>hc (by rw [add_block];exact h1) (h3 i hi)⟩
 ·obtain ⟨b,cc,h1,h2,h3⟩:=h.ten
  exact ⟨b,cc,h1,hc (by show 8 < B;omega) h2,fun i hi=>by
   obtain ⟨x,hx⟩:=h3 i hi
   exact ⟨x,hc (by rw [add_block];exact h1) hx⟩⟩
 ·obtain ⟨x,h1,h2,h3⟩:=h.tab i hi
  exact ⟨x,h1,h2,hc (by show 9 < B;omega) h3⟩
 ·obtain ⟨b,cc,h1,h2,h3⟩:=h.left
  exact ⟨b,cc,h1,hc (by show 10 < B;omega) h2,fun k hk=>⟨hc (by rw [add_block];exact h1) (h3 k hk).1,hc (by show (b.add (k*2)).block < B;rw [add_block];exact h1) (h3 k hk).2⟩⟩
theorem Tabs.nO {B:Nat} {w:World} (h:Tabs B w):uj w:=by
 obtain ⟨b,cc,_,h2,h3⟩:=h.left
 exact ⟨b,cc,h2,h3⟩
theorem iy {B B':Nat} {w w1:World} (h:Below B w w1) (hB:B'≤B):Below B' w w1:=⟨h.os,h.tape,h.output,h.size,fun k hk=>h.block k (Nat.lt_of_lt_of_le hk hB)⟩
end Go.Proofs.YtpgfjbimodnkeaaGreatDoor.Dec
namespace Go.Proofs.YtpgfjbimodnkeaaGreatDoorW.PrintWords
open Go
def iU (J:Nat→Act→World→Prop) (Q:Exit→Act→World→Prop):Exit→Act→World→Prop
 | .goto l,a,w=>J l a w
 | e,a,w=>Q e a w
section
variable {P:Program} {a:Act} {w:World} {Q:Exit→Act→World→Prop} {J:Nat→Act→World→Prop}
theorem pF:iU J Q .ret a w=Q .ret a w:=rfl
theorem lU {c:Code} (J:Nat→Act→World→Prop) (μ:Nat→Act→World→Nat)
 (first:c.wp P (iU J Q) a w)
 (pass:∀ l a w,J l a w→∃ rest,findLabel c l=some rest∧rest.wp P (iU (fun l' a' w'=>J l' a' w'∧μ l' a' w' < μ l a w) Q) a w):(Code.scope c).wp P Q a w:=by
 intro b k cs
 have key:∀ n l a w,μ l a w=n→J l a w→∃ rest,findLabel c l=some rest∧∃ e a' w',Q e a' w'∧Arrives P (lone (b.at a (.code rest :: .inScope c :: k)) cs w) b k cs e a' w':=by
  intro n
  induction n using Nat.strongRecOn with
  | _ n ih =>
    intro l a w hn hJ
    obtain ⟨rest,hf,hp⟩:=pass l a w hJ
    refine ⟨rest,hf,?_⟩
    obtain ⟨e,a₁,w₁,hq,harr⟩:=hp b (.inScope c :: k) cs
    cases e with
    | normal=>exact ⟨.normal,a₁,w₁,hq,Steps.trans harr (.one step_inScope)⟩
    | exit id=>exact ⟨.exit id,a₁,w₁,hq,fun k' hk=>harr k' (by simp [exitTo,hk])⟩
    | goto l' =>
      obtain ⟨hJ',hlt⟩:=hq
      obtain ⟨rest',hf',e₂,a₂,w₂,hq₂,harr₂⟩:=ih _ (by omega) l' a₁ w₁ rfl hJ'
      exact ⟨e₂,a₂,w₂,hq₂,.of_steps (harr _ (by simp [gotoIn,hf'])) harr₂⟩
    | ret=>exact ⟨_,a₁,w₁,hq,harr⟩
    | panic ch=>exact ⟨_,a₁,w₁,hq,harr⟩
    | outgrown=>exact ⟨_,a₁,w₁,hq,harr⟩
 obtain ⟨e,a₁,w₁,hq,harr⟩:=first b (.inScope c :: k) cs
 cases e with
 | normal=>exact ⟨.normal,a₁,w₁,hq,.head step_scope (Steps.trans harr (.one step_inScope))⟩
 | exit id=>exact ⟨.exit id,a₁,w₁,hq,fun k' hk => .head step_scope (harr k' (by simp [exitTo,hk]))⟩
 | goto l' =>
   obtain ⟨rest',hf',e₂,a₂,w₂,hq₂,harr₂⟩:=key _ l' a₁ w₁ rfl hq
   exact ⟨e₂,a₂,w₂,hq₂,.of_steps (.head step_scope (harr _ (by simp [gotoIn,hf']))) harr₂⟩
 | ret=>exact ⟨_,a₁,w₁,hq,.of_steps (.one step_scope) harr⟩
 | panic ch=>exact ⟨_,a₁,w₁,hq,.of_steps (.one step_scope) harr⟩
 | outgrown=>exact ⟨_,a₁,w₁,hq,.of_steps (.one step_scope) harr⟩
end
end Go.Proofs.YtpgfjbimodnkeaaGreatDoorW.PrintWords
