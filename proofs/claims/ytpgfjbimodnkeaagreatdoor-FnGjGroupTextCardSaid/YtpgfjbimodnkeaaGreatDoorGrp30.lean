/- FnGjGroupText: whatever text comes in, the law returns true and the text reads afterwards as before; with the fourteen package-level variables that its row lists as the text of the program lays them (the tied card) (part 30 of 33: lemmas for its last part) -/
import Derived.WalkSpells
import Derived.Deep.Cut
import Derived.Test.YtpgfjbimodnkeaaGreatDoorGrp28
import Derived.Test.YtpgfjbimodnkeaaGreatDoorGrp29
set_option maxHeartbeats 16000000
set_option maxRecDepth 100000
set_option linter.unusedVariables false
set_option linter.unusedSimpArgs false
namespace Go.Proofs.YtpgfjbimodnkeaaGreatDoor.Hec
open Go Go.RowKit Go.Proofs.YtpgfjbimodnkeaaGreatDoorW.PrintWords Go.Proofs.YtpgfjbimodnkeaaGreatDoorW.PrintLast Go.Proofs.YtpgfjbimodnkeaaGreatDoorW.PrintMore Go.Proofs.YtpgfjbimodnkeaaGreatDoor.Scan Go.Proofs.YtpgfjbimodnkeaaGreatDoor.Q Go.Proofs.YtpgfjbimodnkeaaGreatDoor.Dec
structure LO (s:ByteArray) (e:Nat) (nms:List S44) (ks:List S32) (B0 L0 B1:Nat) (stop:Int) (w0:World) (Inv:List (Rs × Rs)→World→Prop) (gt gk gv:Nat) (str:ByteArray) (fl:Nat) (num:Int) (kq i ix:Nat) (ps:List (Rs × Rs)) (ndone nrest:List S44) (kdone rest:List S32) (kr vr:Rs) (W:World):Prop where
 kq:kq=s.size - i
 Ja:ndone ++ nrest=nms
 all:kdone ++ rest=ks
 nok:gI s ndone ps
 ok:gX s kdone ps
 cnt:ix=ps.length
 bnd:ix≤i
 rem:BJ s e nrest rest i
 prd:i≤s.size→Prd s i
 few:FEW s B0 L0 B1 w0 Inv gt gk gv str fl num ps kr vr W
 krk:kr.k=3
 go:∀ j:Nat,0 < j→j≤ps.length→(j:Int)≠stop
structure InO (s:ByteArray) (B0 L0 B1:Nat) (w0:World) (Inv:List (Rs × Rs)→World→Prop) (gt gk gv:Nat) (str:ByteArray) (fl:Nat) (num:Int) (ps:List (Rs × Rs)) (kr vr:Rs) (i j kq p:Nat) (W:World):Prop where
 kq:kq=s.size - p
 lo:i≤p
 hi:p≤j
 few:FEW s B0 L0 B1 w0 Inv gt gk gv str fl num ps kr vr W
theorem BI {s:ByteArray} {e:Nat} {nrest:List S44} {rest:List S32} {i:Nat} (h:BJ s e nrest rest i) (hi:i < s.size) (hb:bt s i≠34):BJ s e nrest rest (i+1)∧bt s i≠92:=by
 rcases h with ⟨j,hsp,hj⟩ | ⟨rfl,rfl,hend⟩
 ·have hlt:i < j:=by
   rcases Nat.lt_or_ge i j with hl | hl
   ·exact hl
   ·have hle:=hsp.le
    have e:i=j:=by omega
    subst e
    exfalso
    cases hj with
    | mem1 _ q c b m e kd ns ks h0 h1=>exact hb h1
    | mems _ q c b m d n e kd ns nl ks l h0 h1=>exact hb h1
  have hg:=hsp.all i (Nat.le_refl _) hlt
  exact ⟨.inl ⟨j,mg hsp hlt,hj⟩,by unfold rG Scan.blank at hg;omega⟩
 ·obtain ⟨_,j,hsp,hjs,hor⟩:=hend.way.resolve_left (by omega)
  by_cases he:i=j
  ·subst he
   rcases hor with h3 | ⟨h3,h4,h5⟩
   ·omega
   ·refine ⟨.inr ⟨rfl,rfl,⟨?_⟩⟩,by omega⟩
    by_cases h6:s.size≤i+1
    ·exact .inl h6
    ·exact .inr ⟨by omega,s.size,gu h5,Nat.le_refl _,.inl rfl⟩
  ·have hle:=hsp.le
   have hg:=hsp.all i (Nat.le_refl _) (by omega)
   refine ⟨.inr ⟨rfl,rfl,⟨?_⟩⟩,by unfold rG Scan.blank at hg;omega⟩
   by_cases h6:s.size≤i+1
   ·exact .inl h6
   ·exact .inr ⟨by omega,j,mg hsp (by omega),hjs,hor⟩
theorem Cb {s:ByteArray} {e:Nat} {nrest:List S44} {rest:List S32} {i:Nat} (h:BJ s e nrest rest i) (hi:i < s.size) (hb:bt s i=34):J s .mems i e 0 nrest rest:=by
 rcases h with ⟨j,hsp,hj⟩ | ⟨rfl,rfl,hend⟩
 ·have hle:=hsp.le
  by_cases he:i=j
  ·rw [he];exact hj
  ·have hg:=hsp.all i (Nat.le_refl _) (by omega)
   unfold rG Scan.blank at hg;omega
 ·obtain ⟨_,j,hsp,hjs,hor⟩:=hend.way.resolve_left (by omega)
  have hle:=hsp.le
  by_cases he:i=j
  ·subst he
   rcases hor with h3 | ⟨h3,_,_⟩
   ·omega
   ·omega
  ·have hg:=hsp.all i (Nat.le_refl _) (by omega)
   unfold rG Scan.blank at hg;omega
theorem xG (w0 w:World) (B B0 L0 B1:Nat) (stop:Int) (Inv:List (Rs × Rs)→World→Prop) (F:Nat) (C:Addr) (s:ByteArray) (hs:s.size≤65536) (nms:List S44) (ks:List S32) (eJ:Nat) (hJ:J s .val 0 eJ 6 nms ks) (hE:Blanks s eJ s.size) (hP:Prd s 0) (str:ByteArray) (fl:Nat) (num:Int) (hT:Tabs B w0) (hBB:B≤B0) (hfd:Ed B0 L0 B1 w0 Inv) (heat:Gh L0 B1 stop Inv F (fun a b=>#[a,b,.pointer (some C)]) s nms ks) (hin:∀ (args:Array Value) (W:World),(callFunc F args).run Tryz.prog W = .ok (.enter F args) W) (hL0:L0=w.heap.size) (hB1:B1=w.heap.size+4) (hO:Inv [] w) :
 Calls Tryz.prog 32 #[resV 5 s str fl num,.func (.func F) #[] #[.pointer (some C)]] w fun e w'=>e = .returned (.tuple #[])∧∃ ps:List (Rs × Rs),Inv ps w'∧gX s (ks.take ps.length) ps∧gI s (nms.take ps.length) ps∧ps.length≤ks.length ∧
  (ps.length=ks.length∨(ps.length:Int)=stop∧0 < stop)∧∀ j:Nat,0 < j→j < ps.length→(j:Int)≠stop:=by
 obtain ⟨h91,hrem⟩:=BD hJ hE
 have hx:=jc s 0
 rw [h91] at hx
 have hpos:0 < s.size:=by have:=hJ.bound;omega
 have p1:((0:Int) < (s.size:Int))=True:=eq_true (by omega)
 have hks:ks.length≤100000:=by have:=yu hJ;have:=hJ.bound;omega
 have hP1:Prd s 1:=Prd.plain (lb hs) hP hpos (by rw [h91];decide)
 replace hrem:=ae.mk hrem
 replace hJ:=ae.mk hJ
 replace hE:=ae.mk hE
 replace hP:=ae.mk hP
 replace hP1:=ae.mk hP1
 replace hT:=ae.mk hT
 replace h91:=ae.mk h91
 replace hO:=ae.mk hO
 go_enter Tryz.func32,Tryz.ntmps32
 go_wp2
 refine wp_loop_rounds 1 ?_
 rw [rounds_succ]
 go_wp2
 go_loopg [6,9,10,11,12,13,14] (s.size - 1) (fun kq v6 v9 v10 v11 v12 v13 v14 w'=>∃ i ix:Nat,v6 = .int .i64 i∧v12 = .int .i64 ix∧ae (∃ (ps:List (Rs × Rs)) (ndone nrest:List S44) (kdone rest:List S32) (kr vr:Rs),LO s eJ nms ks B0 L0 B1 stop w0 Inv w.heap.size (w.heap.size+1+1) (w.heap.size+1+1+1) str fl num kq i ix ps ndone nrest kdone rest kr vr w'))
 case atStart =>
  refine ⟨1,0,rfl,rfl,⟨[],[],nms,[],ks,⟨3,⟨#[]⟩,⟨#[]⟩,0,0⟩,⟨0,⟨#[]⟩,⟨#[]⟩,0,0⟩,⟨rfl,rfl,rfl,trivial,trivial,rfl,by omega,hrem.out,fun _=>hP1.out,⟨hfd,?_,?_,?_,?_,by omega,?_,by omega⟩,rfl,fun j h1 h2=>by simp at h2;omega⟩⟩⟩
  ·exact hfd.below hO.out (ai (ai (ai (ai (Below.refl _ _) _) _) _) _)
  ·exact aN (aN (aN (dP w _) _) _) _
  ·have:=aN (dP ((w.alloc (.cells (jg ⟨5,s,str,fl,num⟩) 67 (0,0))).alloc (.cells (jg ⟨5,s,str,fl,num⟩) 67 (0,0))) (.cells (jg ⟨3,⟨#[]⟩,⟨#[]⟩,0,0⟩) 67 (0,0))) (.cells (jg ⟨0,⟨#[]⟩,⟨#[]⟩,0,0⟩) 67 (0,0))
   simpa using this
  ·have:=dP (((w.alloc (.cells (jg ⟨5,s,str,fl,num⟩) 67 (0,0))).alloc (.cells (jg ⟨5,s,str,fl,num⟩) 67 (0,0))).alloc (.cells (jg ⟨3,⟨#[]⟩,⟨#[]⟩,0,0⟩) 67 (0,0))) (.cells (jg ⟨0,⟨#[]⟩,⟨#[]⟩,0,0⟩) 67 (0,0))
   simpa using this
  ·exact ⟨by have:=hfd.lo hO.out;omega,by have:=hfd.lo hO.out;omega,by have:=hfd.lo hO.out;omega⟩
 case round =>
  obtain ⟨i,ix,rfl,rfl,hL⟩:=hrel
  obtain ⟨ps,ndone,nrest,kdone,rest,kr,vr,hkq,hnall,hall,hnok,hok,hix,hbnd,hrem1,hprd,hF,hkrk,hgo⟩:=hL.out
  clear hL
  by_cases hi:i < s.size
  ·have hprd1:=hprd (by omega)
   have hb:=jc s i
   have q0:(0≤(i:Int))=True:=eq_true (by omega)
   have q1:((i:Int) < (s.size:Int))=True:=eq_true (by omega)
   replace hok:=ae.mk hok
   replace hnok:=ae.mk hnok
   replace hall:=ae.mk hall
   replace hnall:=ae.mk hnall
   replace hgo:=ae.mk hgo
   replace hkq:=ae.mk hkq
   replace hix:=ae.mk hix
   replace hkrk:=ae.mk hkrk
   clear hprd
   by_cases h34:bt s i=34
   ·have hj:=Cb hrem1 hi h34
    obtain ⟨q,bb,m,kd,ns1,nl,ks1,l,rfl,rfl,_,_,hq,hsp,hv,hA,hrem2,hms,hpb⟩:=Bi hs hj hE.out
    have hPb:=hpb hprd1
    have hvb:=hv.bound
    have hst:=uS hv
    have hPm1:Prd s (m+1):=Prd.plain (lb hs) (J.prd (lb hs) hv hPb) hms (by have:=hA.resolve_left (by omega);unfold Scan.blank at this;omega)
    obtain ⟨_,v,hsay⟩:=jL (lb hs) hq (gm.prd (lb hs) hi h34 hq hprd1).1
    have hQ:=hq.str.quo (show 1≤i+1 by omega) (by simpa using h34)
    have hqb:=hq.bound
    obtain ⟨ve,hps,hve⟩:=qy (lb hs) hQ
    obtain ⟨k,hk⟩:=hps.at
    have hpsc:=fun W=>Q.aU.calls k s ((i+1:Nat):Int) _ _ _ _ W hk
    rw [Nat.add_sub_cancel,show ((i+1:Nat):Int)=(i:Int)+1 by omega] at hpsc
    obtain ⟨x,hx0⟩:∃ x,s.extract i (q+1)=x:=⟨_,rfl⟩
    obtain ⟨mm,hm⟩:∃ mm,q=i+1+mm:=⟨q - (i+1),by omega⟩
    have hxz:x.size=mm+2:=by rw [← hx0,ByteArray.size_extract];omega
    have hcut:x.extract 1 (mm+1)=s.extract (i+1) q:=by rw [← hx0,pz s i (q+1) 1 (mm+1) (by omega) (by omega),show i+(mm+1)=q by omega]
    obtain ⟨y,hy⟩:∃ y,s.extract (i+1) q=y:=⟨_,rfl⟩
    have hsl:∀ wx:World,(Instr.slice 9 (.string x) (some (.int .i64 1)) (some (.int .i64 ((mm:Int)+2 - 1))) none).run Tryz.prog wx = .ok (.string y) wx:=fun wx=>by
     rw [show (mm:Int)+2 - 1=(mm:Int)+1 by omega]
     have h:=run_slice_string (P:=Tryz.prog) wx 9 x .i64 .i64 1 ((mm:Int)+1) Tryz.underlying9 (by omega) (by omega) (by omega)
     rwa [show (1:Int).toNat=1 from rfl,show ((mm:Int)+1).toNat=mm+1 by omega,hcut,hy] at h
    rw [hx0] at hpsc
    have hyz:y.size≤1000000:=by rw [← hy,ByteArray.size_extract];omega
    have hys:∃ l,Unq y 0 l∧v=strOfNums l:=by rw [← hy];exact hsay.unq
    have hyp:ve=false→y=v:=fun h=>by
     rw [← hy]
     exact (hsay.plain (by omega) (hve h)).symm
    obtain ⟨ll,hl,hvl⟩:=hys
    have hun:=fun W=>nO W y ll hyz hl
    rw [← hvl] at hun
    have hmb:mm≤65536:=by omega
    have hlen:(x.size:Int)=(mm:Int)+2:=by omega
    have hnm:∀ r:Rs,r.k=3→r.raw=x→r.str=v→qE s ⟨(i:Nat),(q+1:Nat)⟩ r:=fun r h1 h2 h3=>⟨⟨i,q,rfl,rfl,by omega,by omega,by rw [h2,hx0],by rw [h3];exact hsay⟩,h1⟩
    have hbq:q+1≤bb:=hsp.le
    have hbs:bb < s.size:=by omega
    have hany:∀ (kr2:Rs) (W:World),FEW s B0 L0 B1 w0 Inv w.heap.size (w.heap.size+1+1) (w.heap.size+1+1+1) str fl num ps kr2 vr W→Calls Tryz.prog 62 #[.string s,.int .i64 bb,.bool true] W fun r w'=>∃ rs:Rs,r = .returned (.tuple #[.int .i64 m,resV rs.k rs.raw rs.str rs.num rs.idx,.bool true])∧lJ s ⟨kd,bb,m,ns1,ks1⟩ rs∧FEW s B0 L0 B1 w0 Inv w.heap.size (w.heap.size+1+1) (w.heap.size+1+1+1) str fl num ps kr2 vr w':=fun kr2 W hW =>
     (vg W B s hs (hT.out.below (eX hW.bel hBB)) hv hA hPb).mono (fun r w' ⟨rs,h1,h2,h3⟩=>⟨rs,h1,h2,hW.below h3⟩)
    obtain ⟨bgo,hbgo⟩:∃ b,(((ps.length+1:Nat):Int) != stop)=b:=⟨_,rfl⟩
    have hat:=gX.next hall.out hok.out
    have han:=gI.next hnall.out hnok.out
    have hcl0:∀ (kr2 vr2:Rs) (W:World),qE s ⟨(i:Nat),(q+1:Nat)⟩ kr2→lJ s ⟨kd,bb,m,ns1,ks1⟩ vr2→FEW s B0 L0 B1 w0 Inv w.heap.size (w.heap.size+1+1) (w.heap.size+1+1+1) str fl num ps kr2 vr2 W→Calls Tryz.prog F #[resV kr2.k kr2.raw kr2.str kr2.num kr2.idx,resV vr2.k vr2.raw vr2.str vr2.num vr2.idx,.pointer (some C)] W fun e w'=>e = .returned (.bool bgo)∧FEW s B0 L0 B1 w0 Inv w.heap.size (w.heap.size+1+1) (w.heap.size+1+1+1) str fl num (ps ++ [(kr2,vr2)]) kr2 vr2 w':=fun kr2 vr2 W hn hk hW =>
     (heat ps kr2 vr2 _ W hW.inv hat hk (fun n h=>by rw [han] at h;cases h;exact hn) (by have:=hix.out;omega) (by have:=(Array.getElem?_eq_some_iff.1 hW.bv).1;omega)).mono (fun e w' ⟨h1,h2,h3⟩=>⟨by rw [h1,hbgo],hW.after h2 h3⟩)
    have hqn:∀ (wx:World) (a:Option Addr) (n c n' c':Nat),(binOp .neq 65 (.slice a n c) (.slice none n' c')).run Tryz.prog wx = .ok (.bool (!a.isNone)) wx:=fun wx a n c n' c'=>run_neq_slice_nil_any wx _ _ a n c n' c' Tryz.underlying65
    have hun2:∀ W,FEW s B0 L0 B1 w0 Inv w.heap.size (w.heap.size+1+1) (w.heap.size+1+1+1) str fl num ps kr vr W→Calls Tryz.prog 61 #[.string y] W fun e w'=>e = .returned (.string v)∧FEW s B0 L0 B1 w0 Inv w.heap.size (w.heap.size+1+1) (w.heap.size+1+1+1) str fl num ps kr vr w':=fun W h=>(hun W).mono (fun e w' hh=>⟨hh.1,h.below hh.2⟩)
    have hixb:(ix:Int)≤65536:=by omega
    rw [h34] at hb
    have hF0:=hF
    have dk0:=(ah hF0.bk 0).trans rfl
    have fk0:=ak hF0.bk 0
    have dk1:=(ah hF0.bk 1).trans rfl
    have fk1:=ak hF0.bk 1
    have dk2:=(ah hF0.bk 2).trans rfl
    have fk2:=ak hF0.bk 2
    have dk3:=(ah hF0.bk 3).trans rfl
    have fk3:=ak hF0.bk 3
    have dk4:=(ah hF0.bk 4).trans rfl
    have fk4:=ak hF0.bk 4
    have dk5:=(ah hF0.bk 5).trans rfl
    have fk5:=ak hF0.bk 5
    have dt4:=(ah hF0.bt 4).trans rfl
    replace hF:=ae.mk hF
    clear hF0 hx0 hcut hy hve hps hk hsay hl hvl hun hm hyz hxz hpb hj
    replace hQ:=ae.mk hQ
    replace hq:=ae.mk hq
    replace h34:=ae.mk h34
    replace hrem1:=ae.mk hrem1
    replace hrem2:=ae.mk hrem2
    replace hprd1:=ae.mk hprd1
    replace hPb:=ae.mk hPb
    replace hPm1:=ae.mk hPm1
    replace hv:=ae.mk hv
    replace hA:=ae.mk hA
    replace hst:=ae.mk hst
    replace hbgo:=ae.mk hbgo
    replace hat:=ae.mk hat
    replace han:=ae.mk han
    cases ve with
    | false =>
      have hyv:=hyp rfl
      subst hyv
      clear hyp
      go_wp2_with (first | (go_at_call 60;(with_reducible refine (hpsc _).mono ?_);rintro r w4 ⟨rfl,⟨n4,rfl⟩⟩))
      go_loopg [6] (s.size - (q+1)) (fun kq v6 w'=>∃ p:Nat,v6 = .int .i64 p∧ae (InO s B0 L0 B1 w0 Inv w.heap.size (w.heap.size+1+1) (w.heap.size+1+1+1) str fl num ps ⟨kr.k,x,y,kr.num,wrap64 ((i:Int)+num)⟩ vr (q+1) bb kq p w'))
      case atStart=>exact ⟨q+1,by first | rfl | (congr 1;omega),⟨⟨rfl,Nat.le_refl _,hbq,(((hF.out.drewN _).yR ⟨kr.k,kr.raw,y,kr.num,kr.idx⟩ 2 _ rfl).yR ⟨kr.k,x,y,kr.num,kr.idx⟩ 1 _ rfl).yR ⟨kr.k,x,y,kr.num,wrap64 ((i:Int)+num)⟩ 4 _ rfl⟩⟩⟩
      case round =>
       obtain ⟨p,rfl,hL⟩:=hrel
       obtain ⟨hkq2,hip,hpj,hF2⟩:=hL.out
       clear hL dk0 dk1 dk2 dk3 dk4 dk5 fk0 fk1 fk2 fk3 fk4 fk5 dt4
       have hps:p < s.size:=by omega
       have hbp:=jc s p
       have t0:(0≤(p:Int))=True:=eq_true (by omega)
       have t1:((p:Int) < (s.size:Int))=True:=eq_true (by omega)
       replace hkq2:=ae.mk hkq2
       replace hF2:=ae.mk hF2
       by_cases hpe:p=bb
       ·subst hpe
        have hcj:=hst.out
        generalize bt s p=c at *
        have e1:decide (c≤32)=false:=decide_eq_false (by omega)
        have e2:(c == 44)=false:=beq_eq_false_iff_ne.mpr hcj.2.1
        have e3:(c == 58)=false:=beq_eq_false_iff_ne.mpr hcj.2.2.1
        replace hcj:=ae.mk hcj
        have hany2:=hany ⟨kr.k,x,y,kr.num,wrap64 ((i:Int)+num)⟩
        have hclb:=hcl0 ⟨kr.k,x,y,kr.num,wrap64 ((i:Int)+num)⟩
        have hnmb:=ae.mk (hnm ⟨kr.k,x,y,kr.num,wrap64 ((i:Int)+num)⟩ hkrk.out rfl rfl)
        clear hany hcl0 hnm
        go_upto_region 46 with (first | (go_at_call 62;(with_reducible refine (hany2 _ ?hF).mono ?_);(case hF=>repeat (with_reducible first | exact hF2.out | apply FEW.drewN | apply FEW.drew));rintro r w6 ⟨rs,rfl,hkid,hF5⟩;have cv0:=(ah hF5.bv 0).trans rfl;have fv0:=ak hF5.bv 0;have ck0:=(ah hF5.bk 0).trans rfl;have cv1:=(ah hF5.bv 1).trans rfl;have fv1:=ak hF5.bv 1;have ck1:=(ah hF5.bk 1).trans rfl;have cv2:=(ah hF5.bv 2).trans rfl;have fv2:=ak hF5.bv 2;have ck2:=(ah hF5.bk 2).trans rfl;have cv3:=(ah hF5.bv 3).trans rfl;have fv3:=ak hF5.bv 3;have ck3:=(ah hF5.bk 3).trans rfl;have cv4:=(ah hF5.bv 4).trans rfl;have fv4:=ak hF5.bv 4;have ck4:=(ah hF5.bk 4).trans rfl;have cv5:=(ah hF5.bv 5).trans rfl;have fv5:=ak hF5.bv 5;have ck5:=(ah hF5.bk 5).trans rfl;have ct4:=(ah hF5.bt 4).trans rfl;have ct5:=(ah hF5.bt 5).trans rfl;replace hF5:=ae.mk hF5;replace hkid:=ae.mk hkid))
        have hF6:=hF5.out.Hu rs (wrap64 ((p:Int)+num))
        generalize (((((((w6.setCell ⟨w.heap.size+1+1+1,0,none⟩ (.int .i64 rs.k)).setCell ⟨w.heap.size+1+1+1,1,none⟩ (.string rs.raw)).setCell ⟨w.heap.size+1+1+1,2,none⟩ (.string rs.str)).setCell ⟨w.heap.size+1+1+1,3,none⟩ (.float .f64 rs.num)).setCell ⟨w.heap.size+1+1+1,4,none⟩ (.int .i64 rs.idx)).setCell ⟨w.heap.size+1+1+1,5,none⟩ (.slice none 0 0)).setCell ⟨w.heap.size+1+1+1,4,none⟩ (.int .i64 (wrap64 ((p:Int)+num))))=W6 at hF6 ⊢
        clear cv0 cv1 cv2 cv3 cv4 cv5 ck0 ck1 ck2 ck3 ck4 ck5 fv0 fv1 fv2 fv3 fv4 fv5 ct4 ct5
        have cv0:=(ah hF6.bv 0).trans rfl
        have ck0:=(ah hF6.bk 0).trans rfl
        have cv1:=(ah hF6.bv 1).trans rfl
        have ck1:=(ah hF6.bk 1).trans rfl
        have cv2:=(ah hF6.bv 2).trans rfl
        have ck2:=(ah hF6.bk 2).trans rfl
        have cv3:=(ah hF6.bv 3).trans rfl
        have ck3:=(ah hF6.bk 3).trans rfl
        have cv4:=(ah hF6.bv 4).trans rfl
        have ck4:=(ah hF6.bk 4).trans rfl
        have cv5:=(ah hF6.bv 5).trans rfl
        have ck5:=(ah hF6.bk 5).trans rfl
        have hcl:Calls Tryz.prog F #[.agg #[.int .i64 kr.k,.string x,.string y,.float .f64 kr.num,.int .i64 (wrap64 ((i:Int)+num)),.slice none 0 0],.agg #[.int .i64 rs.k,.string rs.raw,.string rs.str,.float .f64 rs.num,.int .i64 (wrap64 ((p:Int)+num)),.slice none 0 0],.pointer (some C)] W6 fun e w'=>e = .returned (.bool bgo)∧FEW s B0 L0 B1 w0 Inv w.heap.size (w.heap.size+1+1) (w.heap.size+1+1+1) str fl num (ps ++ [(⟨kr.k,x,y,kr.num,wrap64 ((i:Int)+num)⟩,{ rs with idx:=wrap64 ((p:Int)+num) })]) ⟨kr.k,x,y,kr.num,wrap64 ((i:Int)+num)⟩ { rs with idx:=wrap64 ((p:Int)+num) } w':=hclb { rs with idx:=wrap64 ((p:Int)+num) } W6 hnmb.out (hkid.out.idx _) hF6
        replace hF6:=ae.mk hF6
        have hkid2:=ae.mk (hkid.out.idx (wrap64 ((p:Int)+num)))
        clear hclb hany2
        cases bgo with
        | false =>
          go_wp2_with (fail)
          refine hcl.mono ?_
          rintro r w7 ⟨rfl,hF7⟩
          replace hF7:=ae.mk hF7
          go_wp2_with (fail)
          refine bodyPost_ret (results_none rfl _ _ _) rfl ?_
          have hst2:((ps.length+1:Nat):Int)=stop:=by have h:=hbgo.out;simpa using h
          have hln:=hok.out.length
          have hln2:=hnok.out.length
          obtain ⟨htk,hle⟩:=mf hall.out
          obtain ⟨htk2,_⟩:=mf hnall.out
          refine ⟨rfl,ps ++ [(⟨kr.k,x,y,kr.num,wrap64 ((i:Int)+num)⟩,{ rs with idx:=wrap64 ((p:Int)+num) })],hF7.out.inv,?_,?_,?_,.inr ?_,fun j h1 h2=>?_⟩
          ·rw [List.length_append,List.length_singleton,← hln,htk];exact gX.snoc hkid2.out hok.out
          ·rw [List.length_append,List.length_singleton,← hln2,htk2];exact gI.snoc hnmb.out hnok.out
          ·rw [List.length_append,List.length_singleton,← hln];exact hle
          ·rw [List.length_append,List.length_singleton];exact ⟨hst2,by omega⟩
          ·rw [List.length_append,List.length_singleton] at h2;exact hgo.out j h1 (by omega)
        | true =>
          go_wp2_with (fail)
          refine hcl.mono ?_
          rintro r w7 ⟨rfl,hF7⟩
          replace hF7:=ae.mk hF7
          go_wp2_with (fail)
          have hst2:((ps.length+1:Nat):Int)≠stop:=by have h:=hbgo.out;simpa using h
          go_roundg (s.size - (m+1))
          case measure=>have:=hkq.out;omega
          case rel=>exact ⟨m+1,ix+1,by first | rfl | (congr 1;omega),by first | rfl | (congr 1;omega),⟨ps ++ [(⟨kr.k,x,y,kr.num,wrap64 ((i:Int)+num)⟩,{ rs with idx:=wrap64 ((p:Int)+num) })],ndone ++ [⟨(i:Nat),(q+1:Nat)⟩],nl,kdone ++ [⟨kd,(p:Nat),(m:Nat),ns1,ks1⟩],l,⟨kr.k,x,y,kr.num,wrap64 ((i:Int)+num)⟩,{ rs with idx:=wrap64 ((p:Int)+num) },
           ⟨rfl,by rw [List.append_assoc];exact hnall.out,by rw [List.append_assoc];exact hall.out,gI.snoc hnmb.out hnok.out,gX.snoc hkid2.out hok.out,by rw [List.length_append,List.length_singleton,hix.out],by omega,hrem2.out,fun _=>hPm1.out,hF7.out,hkrk.out,fun j h1 h2=>by
            rw [List.length_append,List.length_singleton] at h2
            by_cases hje:j=ps.length+1
            ·rw [hje];exact hst2
            ·exact hgo.out j h1 (by omega)⟩⟩⟩
       ·have hg:=hsp.all p hip (by omega)
        have hg2:=oK hg
        generalize bt s p=c at *
        replace hg:=ae.mk hg
        rcases hg2 with hle | ⟨hle,he⟩ | ⟨hle,he⟩
        ·have e1:decide (c≤32)=true:=decide_eq_true hle
         go_wp2
         go_roundg (s.size - (p+1))
         case measure=>have:=hkq2.out;omega
         case rel=>exact ⟨p+1,by first | rfl | (congr 1;omega),⟨⟨rfl,by omega,by omega,by repeat (with_reducible first | exact hF2.out | apply FEW.drewN | apply FEW.drew)⟩⟩⟩
        ·subst he
         go_wp2
         go_roundg (s.size - (p+1))
         case measure=>have:=hkq2.out;omega
         case rel=>exact ⟨p+1,by first | rfl | (congr 1;omega),⟨⟨rfl,by omega,by omega,by repeat (with_reducible first | exact hF2.out | apply FEW.drewN | apply FEW.drew)⟩⟩⟩
        ·subst he
         go_wp2
         go_roundg (s.size - (p+1))
         case measure=>have:=hkq2.out;omega
         case rel=>exact ⟨p+1,by first | rfl | (congr 1;omega),⟨⟨rfl,by omega,by omega,by repeat (with_reducible first | exact hF2.out | apply FEW.drewN | apply FEW.drew)⟩⟩⟩
    | true =>
      clear hyp
      go_wp2_with (first | (go_at_call 60;(with_reducible refine (hpsc _).mono ?_);rintro r w4 ⟨rfl,⟨n4,rfl⟩⟩) | (go_at_call 61;(with_reducible refine (hun2 _ ?hF).mono ?_);(case hF=>repeat (with_reducible first | exact hF.out | apply FEW.drewN | apply FEW.drew));rintro r w5 ⟨rfl,hF5⟩;have dk0:=(ah hF5.bk 0).trans rfl;have fk0:=ak hF5.bk 0;have dk1:=(ah hF5.bk 1).trans rfl;have fk1:=ak hF5.bk 1;have dk2:=(ah hF5.bk 2).trans rfl;have fk2:=ak hF5.bk 2;have dk3:=(ah hF5.bk 3).trans rfl;have fk3:=ak hF5.bk 3;have dk4:=(ah hF5.bk 4).trans rfl;have fk4:=ak hF5.bk 4;have dk5:=(ah hF5.bk 5).trans rfl;have fk5:=ak hF5.bk 5;have dt4:=(ah hF5.bt 4).trans rfl;replace hF5:=ae.mk hF5))
      go_loopg [6] (s.size - (q+1)) (fun kq v6 w'=>∃ p:Nat,v6 = .int .i64 p∧ae (InO s B0 L0 B1 w0 Inv w.heap.size (w.heap.size+1+1) (w.heap.size+1+1+1) str fl num ps ⟨kr.k,x,v,kr.num,wrap64 ((i:Int)+num)⟩ vr (q+1) bb kq p w'))
      case atStart=>exact ⟨q+1,by first | rfl | (congr 1;omega),⟨⟨rfl,Nat.le_refl _,hbq,((hF5.out.yR ⟨kr.k,kr.raw,v,kr.num,kr.idx⟩ 2 _ rfl).yR ⟨kr.k,x,v,kr.num,kr.idx⟩ 1 _ rfl).yR ⟨kr.k,x,v,kr.num,wrap64 ((i:Int)+num)⟩ 4 _ rfl⟩⟩⟩
      case round =>
       obtain ⟨p,rfl,hL⟩:=hrel
       obtain ⟨hkq2,hip,hpj,hF2⟩:=hL.out
       clear hL dk0 dk1 dk2 dk3 dk4 dk5 fk0 fk1 fk2 fk3 fk4 fk5 dt4
       have hps:p < s.size:=by omega
       have hbp:=jc s p
       have t0:(0≤(p:Int))=True:=eq_true (by omega)
       have t1:((p:Int) < (s.size:Int))=True:=eq_true (by omega)
       replace hkq2:=ae.mk hkq2
       replace hF2:=ae.mk hF2
       by_cases hpe:p=bb
       ·subst hpe
        have hcj:=hst.out
        generalize bt s p=c at *
        have e1:decide (c≤32)=false:=decide_eq_false (by omega)
        have e2:(c == 44)=false:=beq_eq_false_iff_ne.mpr hcj.2.1
        have e3:(c == 58)=false:=beq_eq_false_iff_ne.mpr hcj.2.2.1
        replace hcj:=ae.mk hcj
        have hany2:=hany ⟨kr.k,x,v,kr.num,wrap64 ((i:Int)+num)⟩
        have hclb:=hcl0 ⟨kr.k,x,v,kr.num,wrap64 ((i:Int)+num)⟩
        have hnmb:=ae.mk (hnm ⟨kr.k,x,v,kr.num,wrap64 ((i:Int)+num)⟩ hkrk.out rfl rfl)
        clear hany hcl0 hnm
        go_upto_region 46 with (first | (go_at_call 62;(with_reducible refine (hany2 _ ?hF).mono ?_);(case hF=>repeat (with_reducible first | exact hF2.out | apply FEW.drewN | apply FEW.drew));rintro r w6 ⟨rs,rfl,hkid,hF5⟩;have cv0:=(ah hF5.bv 0).trans rfl;have fv0:=ak hF5.bv 0;have ck0:=(ah hF5.bk 0).trans rfl;have cv1:=(ah hF5.bv 1).trans rfl;have fv1:=ak hF5.bv 1;have ck1:=(ah hF5.bk 1).trans rfl;have cv2:=(ah hF5.bv 2).trans rfl;have fv2:=ak hF5.bv 2;have ck2:=(ah hF5.bk 2).trans rfl;have cv3:=(ah hF5.bv 3).trans rfl;have fv3:=ak hF5.bv 3;have ck3:=(ah hF5.bk 3).trans rfl;have cv4:=(ah hF5.bv 4).trans rfl;have fv4:=ak hF5.bv 4;have ck4:=(ah hF5.bk 4).trans rfl;have cv5:=(ah hF5.bv 5).trans rfl;have fv5:=ak hF5.bv 5;have ck5:=(ah hF5.bk 5).trans rfl;have ct4:=(ah hF5.bt 4).trans rfl;have ct5:=(ah hF5.bt 5).trans rfl;replace hF5:=ae.mk hF5;replace hkid:=ae.mk hkid))
        have hF6:=hF5.out.Hu rs (wrap64 ((p:Int)+num))
        generalize (((((((w6.setCell ⟨w.heap.size+1+1+1,0,none⟩ (.int .i64 rs.k)).setCell ⟨w.heap.size+1+1+1,1,none⟩ (.string rs.raw)).setCell ⟨w.heap.size+1+1+1,2,none⟩ (.string rs.str)).setCell ⟨w.heap.size+1+1+1,3,none⟩ (.float .f64 rs.num)).setCell ⟨w.heap.size+1+1+1,4,none⟩ (.int .i64 rs.idx)).setCell ⟨w.heap.size+1+1+1,5,none⟩ (.slice none 0 0)).setCell ⟨w.heap.size+1+1+1,4,none⟩ (.int .i64 (wrap64 ((p:Int)+num))))=W6 at hF6 ⊢
        clear cv0 cv1 cv2 cv3 cv4 cv5 ck0 ck1 ck2 ck3 ck4 ck5 fv0 fv1 fv2 fv3 fv4 fv5 ct4 ct5
        have cv0:=(ah hF6.bv 0).trans rfl
        have ck0:=(ah hF6.bk 0).trans rfl
        have cv1:=(ah hF6.bv 1).trans rfl
        have ck1:=(ah hF6.bk 1).trans rfl
        have cv2:=(ah hF6.bv 2).trans rfl
        have ck2:=(ah hF6.bk 2).trans rfl
        have cv3:=(ah hF6.bv 3).trans rfl
        have ck3:=(ah hF6.bk 3).trans rfl
        have cv4:=(ah hF6.bv 4).trans rfl
        have ck4:=(ah hF6.bk 4).trans rfl
        have cv5:=(ah hF6.bv 5).trans rfl
        have ck5:=(ah hF6.bk 5).trans rfl
        have hcl:Calls Tryz.prog F #[.agg #[.int .i64 kr.k,.string x,.string v,.float .f64 kr.num,.int .i64 (wrap64 ((i:Int)+num)),.slice none 0 0],.agg #[.int .i64 rs.k,.string rs.raw,.string rs.str,.float .f64 rs.num,.int .i64 (wrap64 ((p:Int)+num)),.slice none 0 0],.pointer (some C)] W6 fun e w'=>e = .returned (.bool bgo)∧FEW s B0 L0 B1 w0 Inv w.heap.size (w.heap.size+1+1) (w.heap.size+1+1+1) str fl num (ps ++ [(⟨kr.k,x,v,kr.num,wrap64 ((i:Int)+num)⟩,{ rs with idx:=wrap64 ((p:Int)+num) })]) ⟨kr.k,x,v,kr.num,wrap64 ((i:Int)+num)⟩ { rs with idx:=wrap64 ((p:Int)+num) } w':=hclb { rs with idx:=wrap64 ((p:Int)+num) } W6 hnmb.out (hkid.out.idx _) hF6
        replace hF6:=ae.mk hF6
        have hkid2:=ae.mk (hkid.out.idx (wrap64 ((p:Int)+num)))
        clear hclb hany2
        cases bgo with
        | false =>
          go_wp2_with (fail)
          refine hcl.mono ?_
          rintro r w7 ⟨rfl,hF7⟩
          replace hF7:=ae.mk hF7
          go_wp2_with (fail)
          refine bodyPost_ret (results_none rfl _ _ _) rfl ?_
          have hst2:((ps.length+1:Nat):Int)=stop:=by have h:=hbgo.out;simpa using h
          have hln:=hok.out.length
          have hln2:=hnok.out.length
          obtain ⟨htk,hle⟩:=mf hall.out
          obtain ⟨htk2,_⟩:=mf hnall.out
          refine ⟨rfl,ps ++ [(⟨kr.k,x,v,kr.num,wrap64 ((i:Int)+num)⟩,{ rs with idx:=wrap64 ((p:Int)+num) })],hF7.out.inv,?_,?_,?_,.inr ?_,fun j h1 h2=>?_⟩
          ·rw [List.length_append,List.length_singleton,← hln,htk];exact gX.snoc hkid2.out hok.out
          ·rw [List.length_append,List.length_singleton,← hln2,htk2];exact gI.snoc hnmb.out hnok.out
          ·rw [List.length_append,List.length_singleton,← hln];exact hle
          ·rw [List.length_append,List.length_singleton];exact ⟨hst2,by omega⟩
          ·rw [List.length_append,List.length_singleton] at h2;exact hgo.out j h1 (by omega)
        | true =>
          go_wp2_with (fail)
          refine hcl.mono ?_
          rintro r w7 ⟨rfl,hF7⟩
          replace hF7:=ae.mk hF7
          go_wp2_with (fail)
          have hst2:((ps.length+1:Nat):Int)≠stop:=by have h:=hbgo.out;simpa using h
          go_roundg (s.size - (m+1))
          case measure=>have:=hkq.out;omega
          case rel=>exact ⟨m+1,ix+1,by first | rfl | (congr 1;omega),by first | rfl | (congr 1;omega),⟨ps ++ [(⟨kr.k,x,v,kr.num,wrap64 ((i:Int)+num)⟩,{ rs with idx:=wrap64 ((p:Int)+num) })],ndone ++ [⟨(i:Nat),(q+1:Nat)⟩],nl,kdone ++ [⟨kd,(p:Nat),(m:Nat),ns1,ks1⟩],l,⟨kr.k,x,v,kr.num,wrap64 ((i:Int)+num)⟩,{ rs with idx:=wrap64 ((p:Int)+num) },
           ⟨rfl,by rw [List.append_assoc];exact hnall.out,by rw [List.append_assoc];exact hall.out,gI.snoc hnmb.out hnok.out,gX.snoc hkid2.out hok.out,by rw [List.length_append,List.length_singleton,hix.out],by omega,hrem2.out,fun _=>hPm1.out,hF7.out,hkrk.out,fun j h1 h2=>by
            rw [List.length_append,List.length_singleton] at h2
            by_cases hje:j=ps.length+1
            ·rw [hje];exact hst2
            ·exact hgo.out j h1 (by omega)⟩⟩⟩
       ·have hg:=hsp.all p hip (by omega)
        have hg2:=oK hg
        generalize bt s p=c at *
        replace hg:=ae.mk hg
        rcases hg2 with hle | ⟨hle,he⟩ | ⟨hle,he⟩
        ·have e1:decide (c≤32)=true:=decide_eq_true hle
         go_wp2
         go_roundg (s.size - (p+1))
         case measure=>have:=hkq2.out;omega
         case rel=>exact ⟨p+1,by first | rfl | (congr 1;omega),⟨⟨rfl,by omega,by omega,by repeat (with_reducible first | exact hF2.out | apply FEW.drewN | apply FEW.drew)⟩⟩⟩
        ·subst he
         go_wp2
         go_roundg (s.size - (p+1))
         case measure=>have:=hkq2.out;omega
         case rel=>exact ⟨p+1,by first | rfl | (congr 1;omega),⟨⟨rfl,by omega,by omega,by repeat (with_reducible first | exact hF2.out | apply FEW.drewN | apply FEW.drew)⟩⟩⟩
        ·subst he
         go_wp2
         go_roundg (s.size - (p+1))
         case measure=>have:=hkq2.out;omega
         case rel=>exact ⟨p+1,by first | rfl | (congr 1;omega),⟨⟨rfl,by omega,by omega,by repeat (with_reducible first | exact hF2.out | apply FEW.drewN | apply FEW.drew)⟩⟩⟩
   ·obtain ⟨hrem2,h92⟩:=BI hrem1 hi h34
    have hP2:Prd s (i+1):=Prd.plain (lb hs) hprd1 hi h92
    generalize bt s i=c at *
    have e34:(c != 34)=true:=bne_iff_ne.mpr h34
    replace hF:=ae.mk hF
    replace hrem1:=ae.mk hrem1
    replace hrem2:=ae.mk hrem2
    replace hprd1:=ae.mk hprd1
    replace hP2:=ae.mk hP2
    go_wp2
    go_roundg (s.size - (i+1))
    case measure=>have:=hkq.out;omega
    case rel=>exact ⟨i+1,ix,by first | rfl | (congr 1;omega),rfl,⟨ps,ndone,nrest,kdone,rest,kr,vr,⟨rfl,hnall.out,hall.out,hnok.out,hok.out,hix.out,by omega,hrem2.out,fun _=>hP2.out,hF.out,hkrk.out,hgo.out⟩⟩⟩
  ·have hr:rest=[]∧nrest=[]:=by
    rcases hrem1 with ⟨j,hsp,hj⟩ | ⟨h,h',_⟩
    ·have:=hj.bound;have:=hsp.le;omega
    ·exact ⟨h',h⟩
   obtain ⟨rfl,rfl⟩:=hr
   rw [List.append_nil] at hall hnall
   subst hall
   subst hnall
   have hlen:=hok.length
   have hlen2:=hnok.length
   go_wp2
   go_end0
   exact ⟨rfl,ps,hF.inv,by rw [← hlen,List.take_length];exact hok,by rw [← hlen2,List.take_length];exact hnok,by omega,.inl hlen.symm,fun j h1 h2=>hgo j h1 (by omega)⟩
def gat (nms:List ByteArray) (es:List (List ByteArray)):List (List Int):=(nms.zip es).foldl (fun R q=>grs R q.1 q.2) []
theorem DT {a:List ByteArray} {es:List (List ByteArray)} {n:ByteArray} {y:List ByteArray} (h:es[a.length]?=some y):gat (a ++ [n]) es=grs (gat a es) n y:=by
 obtain ⟨hl,hy⟩:=List.getElem?_eq_some_iff.1 h
 have he:es=es.take a.length ++ y :: es.drop (a.length+1):=by
  rw [← hy,← List.drop_eq_getElem_cons hl,List.take_append_drop]
 have hz:a.zip es=a.zip (es.take a.length):=by
  have h1:=List.zip_append (l₁:=a) (r₁:=[]) (l₂:=es.take a.length) (r₂:=y :: es.drop (a.length+1)) (by rw [List.length_take];omega)
  rw [← he,List.append_nil] at h1
  rw [h1]
  simp
 have h2:=List.zip_append (l₁:=a) (r₁:=[n]) (l₂:=es.take a.length) (r₂:=y :: es.drop (a.length+1)) (by rw [List.length_take];omega)
 rw [← he] at h2
 unfold gat
 rw [h2,List.foldl_append,← hz]
 rfl
def Gives (s:ByteArray) (p:S32) (ys:List ByteArray):Prop:=∀ vr:Rs,lJ s p vr →
 ((∀ W,Calls Tryz.prog 90 #[resV vr.k vr.raw vr.str vr.num vr.idx] W fun e w'=>e = .returned (.bool false)∧Below W.heap.size W w')∧ys=[]) ∨
 (vr.k=5∧(∀ W,Calls Tryz.prog 90 #[resV 5 vr.raw vr.str vr.num vr.idx] W fun e w'=>e = .returned (.bool true)∧Below W.heap.size W w')∧∃ (ks':List S32) (eJ:Nat),J vr.raw .val 0 eJ 5 [] ks'∧Blanks vr.raw eJ vr.raw.size∧Prd vr.raw 0∧ks'.length≤65536∧ys.length≤65536∧(∀ y ∈ ys,y.size≤65536)∧∀ ps:List (Rs × Rs),gX vr.raw ks' ps→ps.map (fun p=>p.2.raw)=ys)
structure Out (H0 Ca Bb:Nat) (es:List (List ByteArray)) (w:World) (ps:List (Rs × Rs)) (W:World):Prop where
 all:kS Ca Bb (gat (ps.map fun p=>p.1.raw) es) W
 len:(gat (ps.map fun p=>p.1.raw) es).length≤65536
 rows:∀ i,((gat (ps.map fun p=>p.1.raw) es).getD i []).length≤ps.length*131074
 bel:Below H0 w W
 lo:Bb≤W.heap.size
theorem yb {H0 Ca Bb L0 B1:Nat} {es:List (List ByteArray)} {w:World} (hH:H0≤Bb) (hL:Bb≤L0):Ed H0 L0 B1 w (Out H0 Ca Bb es w) where
 bel h:=h.bel
 lo h:=Nat.le_trans hH h.lo
 below h hb:=⟨h.all.below hb,h.len,h.rows,h.bel.trans (eX hb (Nat.le_trans hH h.lo)),Nat.le_trans h.lo hb.size⟩
 set h hg h1 h2 j u:=⟨h.all.set hg (by decide) (by decide) (by decide) j u,h.len,h.rows,h.bel.setCell (Nat.le_trans hH (Nat.le_trans hL h1)) u,Nat.le_trans h.lo (by simp)⟩
theorem uF {s:ByteArray} {n:S44} {r:Rs} (h:qE s n r):r.raw.size≤s.size:=by
 obtain ⟨b,q,_,_,_,he,hr,_⟩:=h.at_
 rw [hr,ByteArray.size_extract]
 omega
theorem yG {B H0 Ca Bb L0 B1:Nat} {es:List (List ByteArray)} {w:World} {s:ByteArray} {nms:List S44} {ks:List S32} (hs:s.size≤65536) (hk:ks.length≤65536) (hnk:nms.length=ks.length) (hek:es.length=ks.length) (hg:∀ (i:Nat) (p:S32) (ys:List ByteArray),ks[i]?=some p→es[i]?=some ys→Gives s p ys)
 (hT:Tabs B w) (hB:B≤H0) (hH:H0≤Bb) (h1:H0≤Ca) (hin:∀ (args:Array Value) (W:World),(callFunc 91 args).run Tryz.prog W = .ok (.enter 91 args) W) :
 Gh L0 B1 0 (Out H0 Ca Bb es w) 89 (fun a b=>#[a,b,.pointer (some ⟨Ca,0,none⟩)]) s nms ks:=by
 intro ps kr vr p W hI hp hok hnm _ hB1
 have hpl:=(List.getElem?_eq_some_iff.1 hp).1
 have hvs:vr.raw.size≤65536:=Nat.le_trans (ye hok) hs
 have hks:kr.raw.size≤65536:=Nat.le_trans (uF (hnm _ (List.getElem?_eq_getElem (by omega)))) hs
 have hes:es[ps.length]?=some es[ps.length]:=List.getElem?_eq_getElem (by omega)
 have hst:(((ps.length+1:Nat):Int) != 0)=true:=by simp;omega
 have hsn:gat ((ps ++ [(kr,vr)]).map fun p=>p.1.raw) es=grs (gat (ps.map fun p=>p.1.raw) es) kr.raw es[ps.length]:=by
  rw [List.map_append,List.map_singleton]
  exact DT (by rw [List.length_map];exact hes)
 rcases hg _ _ _ hp hes vr hok with ⟨hno,he⟩ | ⟨hk5,hia,ks',eJ,hJ,hE,hP,hk',hy',hyl,hys⟩
 ·refine (Dz W ⟨Ca,0,none⟩ kr vr hno).mono ?_
  rintro e w' ⟨rfl,hb⟩
  have hsame:gat ((ps ++ [(kr,vr)]).map fun p=>p.1.raw) es=gat (ps.map fun p=>p.1.raw) es:=by rw [hsn,he];rfl
  have hI':=(yb (L0:=Bb) (B1:=0) hH (Nat.le_refl _)).below hI hb
  refine ⟨by rw [hst],⟨by rw [hsame];exact hI'.all,by rw [hsame];exact hI.len,fun i=>?_,hI'.bel,hI'.lo⟩,fun b cs _ _ hk=>bU hk hb⟩
  rw [hsame,List.length_append,List.length_singleton]
  exact Nat.le_trans (hI.rows i) (Nat.mul_le_mul_right _ (by omega))
 ·obtain ⟨vk,vraw,vstr,vnum,vidx⟩:=vr
  obtain rfl:vk=5:=hk5
  have hTW:Tabs B W:=hT.below (eX hI.bel hB)
  refine (Bl B H0 Ca Bb ps.length W _ kr vraw vstr vnum vidx ks' eJ hJ hE hP hvs hks hk' hI.all hI.len (by omega) hI.rows hTW hB hH hI.lo h1 hia hin).mono ?_
  rintro e w' ⟨rfl,qs,g1,g2,g3,g4,g5⟩
  rw [hys qs g2,← hsn] at g1
  refine ⟨by rw [hst],⟨g1,?_,fun i=>?_,hI.bel.trans g4,Nat.le_trans hI.lo g4.size⟩,fun b cs _ _ hk=>g5 b cs hk⟩
  ·rw [hsn,oC]
   have:=hI.len
   omega
  ·rw [hsn,List.length_append,List.length_singleton]
   exact CP hI.rows hks hyl i
end Go.Proofs.YtpgfjbimodnkeaaGreatDoor.Hec
