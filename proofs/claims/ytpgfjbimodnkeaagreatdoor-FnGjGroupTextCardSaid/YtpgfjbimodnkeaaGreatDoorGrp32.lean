/- FnGjGroupText: whatever text comes in, the law returns true and the text reads afterwards as before; with the fourteen package-level variables that its row lists as the text of the program lays them (the tied card) (part 32 of 33: lemmas for its last part) -/
import Derived.Deep.RegionLaw
import Derived.Deep.Cut
import Derived.ChangeArms
import Derived.OpenShut
import Derived.LaidLaws
import Derived.MakeChecks
import Derived.ChangeOld
import Derived.Test.YtpgfjbimodnkeaaGreatDoorRows
import Derived.Test.YtpgfjbimodnkeaaGreatDoorGrp1
import Derived.Test.YtpgfjbimodnkeaaGreatDoorGrp6
import Derived.Test.YtpgfjbimodnkeaaGreatDoorGrp28
import Derived.Test.YtpgfjbimodnkeaaGreatDoorGrp31
set_option maxHeartbeats 16000000
set_option maxRecDepth 100000
set_option linter.unusedVariables false
set_option linter.unusedSimpArgs false
namespace Go.Proofs.YtpgfjbimodnkeaaGreatDoor.Q
open Go Go.RowKit Go.Proofs.YtpgfjbimodnkeaaGreatDoorW.PrintWords Go.Proofs.YtpgfjbimodnkeaaGreatDoorW.PrintLast Go.Proofs.YtpgfjbimodnkeaaGreatDoorW.PrintMore
theorem yt (W:World) (X:Option Addr) (m c:Nat):Calls Tryz.prog 37 #[.agg #[.int .i64 5,.string ⟨#[]⟩,.slice none 0 0,.slice X m c]] W fun e w'=>e = .returned (.agg #[.int .i64 5,.string ⟨#[]⟩,.slice none 0 0,.slice X m c,.bool true,.bool false,.bool false])∧Below W.heap.size W w':=by
 go_enter Tryz.func37,Tryz.ntmps37
 go_wp2
 refine bodyPost_ret (results_cell_row rfl _ _ (W.heap.size+1) 47 #[.int .i64 5,.string ⟨#[]⟩,.slice none 0 0,.slice X m c,.bool true,.bool false,.bool false] (0,0) _ rfl (by
  have:=dP (W.alloc (.cells #[.int .i64 5,.string ⟨#[]⟩,.slice none 0 0,.slice X m c] 25)) (.cells #[.int .i64 5,.string ⟨#[]⟩,.slice none 0 0,.slice X m c,.bool true,.bool false,.bool false] 47)
  simpa using this) Tryz.underlying47 rfl (by kernel_rfl)) rfl ⟨rfl,ai (ai (Below.refl _ _) _) _⟩
def fK (keys:List ByteArray) (k _:Nat):List ByteArray:=keys.take k
def fV (ts:List S25) (k j:Nat):List S25:=(ts.take k).map fun t=>t.f3.getD j z25
def Ig (ts:List S25) (m k:Nat):Prop:=∀ t ∈ ts.take k,t.f0=5∧t.f3.length=m
def xC (txt:ByteArray) (A2:Option Addr) (n2 c2:Nat) (A3:Option Addr) (n3 c3:Nat):Array Value:=#[.int .i64 6,.string txt,.slice A2 n2 c2,.slice A3 n3 c3]
def z7:Array Value:=#[.int .i64 0,.string ⟨#[]⟩,.slice none 0 0,.slice none 0 0,.bool false,.bool false,.bool false]
def on (n k:Nat):Array Bool:=((List.range n).map fun x=>decide (x < k)).toArray
def IP:Bool × List (List Nat × List Nat):=(true,[([],[]),([0],[0]),([],[]),([],[]),([3],[3]),([],[]),([4,5],[4,5]),([6],[6]),([7],[7]),([],[]),([9],[9]),([],[]),([10,11],[10,11]),([12],[12]),([13],[13]),([8,14],[8,14]),([1,2,0,1,2,3,4,5,6,7,8,9,10,11,12,13,14,15],[1,2]),([16,0,1,2,3,4,5,6,7,8,9,10,11,12,13,14,15],[16]),([17,15,15,0,1,2,3,4,5,6,7,8,9,10,11,12,13,14,15],[15,17])])
def IY:List Nat:=[0,1,0,0,8,0,56,120,248,0,512,0,3584,7680,15872,32760,65535,131071,262143]
theorem Gf:kT .any (opsOf Tryz.f14 12)=IP:=by kernel_rfl
theorem D6:kK IP.2 IY=true:=by kernel_rfl
def Il:Bool × List (List Nat × List Nat):=(true,[([],[]),([0],[0]),([],[]),([1,2],[1,2]),([3],[3]),([4],[4]),([],[]),([5],[5]),([],[]),([5,8,0,1,2,3,4,5,6,7,8],[5,8]),([1,2,0,1,2,3,4,5,6,7,8,9],[1,2]),([10,0,1,2,3,4,5,6,7,8,9],[10]),([11,9,9,0,1,2,3,4,5,6,7,8,9],[9,11])])
def I5:List Nat:=[0,1,0,7,15,31,0,63,0,511,1023,2047,4095]
theorem FO:kT .any (opsOf Tryz.f14 14)=Il:=by kernel_rfl
theorem DI:kK Il.2 I5=true:=by kernel_rfl
def IJ:Bool × List (List Nat × List Nat):=(true,[([],[]),([0],[0]),([],[]),([],[]),([3],[3]),([],[]),([4,5],[4,5]),([6],[6]),([7],[7]),([],[]),([9],[9]),([8,10],[8,10]),([1,2,0,1,2,3,4,5,6,7,8,9,10,11],[1,2]),([12,0,1,2,3,4,5,6,7,8,9,10,11],[12]),([13,11,11,0,1,2,3,4,5,6,7,8,9,10,11],[11,13])])
def IX:List Nat:=[0,1,0,0,8,0,56,120,248,0,512,2040,4095,8191,16383]
theorem Gi:kT .any (opsOf Tryz.f14 16)=IJ:=by kernel_rfl
theorem DU:kK IJ.2 IX=true:=by kernel_rfl
theorem xY (txt:ByteArray) (A2:Option Addr) (c2:Nat) (keys:List ByteArray) (A3:Option Addr) (c3:Nat) (ts:List S25) (w:World) (h2:Kd.string.C w A2 keys.length keys) (h3:k25.C w A3 ts.length ts) (hl:ts.length≤65536) (hm:∀ t ∈ ts,t.f0=5→t.f3.length≤65536) (hk:keys.length=ts.length) :
 Calls Tryz.prog 14 #[.agg #[.int .i64 6,.string txt,.slice A2 keys.length c2,.slice A3 ts.length c3]] w fun e w'=>Below w.heap.size w w' ∧
  (e = .returned (.agg #[.int .i64 0,.string ⟨#[]⟩,.slice none 0 0,.slice none 0 0,.bool false,.bool true,.bool false]) ∨
  ∃ (m:Nat) (X:Option Addr) (c:Nat),(∀ t ∈ ts,t.f0=5∧t.f3.length=m)∧(ts=[]→m=0)∧e = .returned (.agg #[.int .i64 5,.string ⟨#[]⟩,.slice none 0 0,.slice X m c,.bool true,.bool false,.bool false])∧k25.C w' X m ((List.range m).map fun i=>(⟨6,⟨#[]⟩,keys,ts.map fun t=>t.f3.getD i z25⟩:S25))):=by
 replace h2:=ae.mk h2
 replace h3:=ae.mk h3
 replace hm:=ae.mk hm
 replace hk:=ae.mk hk
 obtain ⟨m,hm0⟩:∃ m,(ts.getD 0 z25).f3.length=m:=⟨_,rfl⟩
 have S0:Gst w (xC txt A2 keys.length c2 A3 ts.length c3) z7 (.slice none 0 0) (.slice none 0 0) [] [] [] [] [] (((w.alloc (.cells (xC txt A2 keys.length c2 A3 ts.length c3) 25)).alloc (.cells z7 47)).alloc (.cells #[.int .i64 5,.string ⟨#[]⟩,.slice none 0 0,.slice none 0 0] 25)):=by
  refine ⟨aN (aN (dP w _) _) _,?_,?_,⟨rfl,?_,?_⟩,rfl,iQ.nil _ _ _ _,ai (ai (ai (Below.refl _ _) _) _) _⟩
  ·have:=aN (dP (w.alloc (.cells (xC txt A2 keys.length c2 A3 ts.length c3) 25)) (.cells z7 47)) (.cells #[.int .i64 5,.string ⟨#[]⟩,.slice none 0 0,.slice none 0 0] 25)
   simpa using this
  ·have:=dP ((w.alloc (.cells (xC txt A2 keys.length c2 A3 ts.length c3) 25)).alloc (.cells z7 47)) (.cells #[.int .i64 5,.string ⟨#[]⟩,.slice none 0 0,.slice none 0 0] 25)
   simpa using this
  ·intro i v x h1 h2
   cases i with
   | zero =>
     obtain rfl:=Option.some.inj h1
     obtain rfl:=Option.some.inj h2
     exact rX _ _ _ _
   | succ i=>cases h1
  ·intro i j v v' hij h1 h2
   cases i with
   | zero=>obtain rfl:=Option.some.inj h1;exact .inl rfl
   | succ i=>cases h1
 unfold xC z7 at S0
 replace S0:=ae.mk S0
 replace hm0:=ae.mk hm0
 go_enter Tryz.func14,Tryz.ntmps14
 go_wp2_with (fail)
 go_loopg [12] ts.length (fun kq v12 W=>∃ (k:Nat) (o:Value) (av:List (Value × Value)) (xs:List (Nat × List Value)),v12 = .int .i64 (k:Int)∧ae (k+kq=ts.length)∧ae (Gst w (xC txt A2 keys.length c2 A3 ts.length c3) z7 o o [] [] (mid (fK keys) m k 0) av xs W)∧ae (Rps w (mid (fV ts) m k 0) xs)∧ae (Ig ts m k))
 case atStart=>exact ⟨0,.slice none 0 0,[],[],rfl,⟨by omega⟩,S0,⟨Rps.nil w⟩,⟨fun t ht=>by simp at ht⟩⟩
 case round =>
  clear S0
  obtain ⟨k,o,av,xs,rfl,hkq,hS,hR,hG⟩:=hrel
  cases gk with
  | zero =>
    have e0:decide (k < ts.length)=false:=decide_eq_false (by have:=hkq.out;omega)
    obtain ⟨oA,oc,rfl⟩:=ja hS.out.row3
    have c0:wr.cell? ⟨w.heap.size+1+1,0,none⟩=some (.int .i64 5):=(ah hS.out.k2 0).trans rfl
    have c1:wr.cell? ⟨w.heap.size+1+1,1,none⟩=some (.string ⟨#[]⟩):=(ah hS.out.k2 1).trans rfl
    have c2':wr.cell? ⟨w.heap.size+1+1,2,none⟩=some (.slice none 0 0):=(ah hS.out.k2 2).trans rfl
    have c3':wr.cell? ⟨w.heap.size+1+1,3,none⟩=some (.slice oA av.length oc):=(ah hS.out.k2 3).trans rfl
    go_wp2_with (fail)
    with_reducible refine (yt _ _ _ _).mono ?_
    rintro e w1 ⟨rfl,hB1⟩
    have h1:=hS.out.below hB1
    clear hS hB1 c0 c1 c2' c3'
    replace h1:=ae.mk h1
    have z0:_=some (Value.int .i64 0):=(ah h1.out.k1 0).trans rfl
    have z1:_=some (Value.string ⟨#[]⟩):=(ah h1.out.k1 1).trans rfl
    have z2:_=some (Value.slice none 0 0):=(ah h1.out.k1 2).trans rfl
    have z3:_=some (Value.slice none 0 0):=(ah h1.out.k1 3).trans rfl
    have z4:_=some (Value.bool false):=(ah h1.out.k1 4).trans rfl
    have z5:_=some (Value.bool false):=(ah h1.out.k1 5).trans rfl
    have z6:_=some (Value.bool false):=(ah h1.out.k1 6).trans rfl
    have y0:=ak h1.out.k1 0
    have y1:=ak h1.out.k1 1
    have y2:=ak h1.out.k1 2
    have y3:=ak h1.out.k1 3
    have y4:=ak h1.out.k1 4
    have y5:=ak h1.out.k1 5
    have y6:=ak h1.out.k1 6
    go_wp2
    have h8:=(((((((h1.out.lX (z':=#[.int .i64 5,.string ⟨#[]⟩,.slice none 0 0,.slice none 0 0,.bool false,.bool false,.bool false]) 0 (.int .i64 5) rfl).lX (z':=#[.int .i64 5,.string ⟨#[]⟩,.slice none 0 0,.slice none 0 0,.bool false,.bool false,.bool false]) 1 (.string ⟨#[]⟩) rfl).lX (z':=#[.int .i64 5,.string ⟨#[]⟩,.slice none 0 0,.slice none 0 0,.bool false,.bool false,.bool false]) 2 (.slice none 0 0) rfl).lX (z':=#[.int .i64 5,.string ⟨#[]⟩,.slice none 0 0,.slice oA av.length oc,.bool false,.bool false,.bool false]) 3 (.slice oA av.length oc) rfl).lX (z':=#[.int .i64 5,.string ⟨#[]⟩,.slice none 0 0,.slice oA av.length oc,.bool true,.bool false,.bool false]) 4 (.bool true) rfl).lX (z':=#[.int .i64 5,.string ⟨#[]⟩,.slice none 0 0,.slice oA av.length oc,.bool true,.bool false,.bool false]) 5 (.bool false) rfl).lX (z':=#[.int .i64 5,.string ⟨#[]⟩,.slice none 0 0,.slice oA av.length oc,.bool true,.bool false,.bool false]) 6 (.bool false) rfl)
    refine bodyPost_ret (results_cell_row rfl _ _ (w.heap.size+1) 47 #[.int .i64 5,.string ⟨#[]⟩,.slice none 0 0,.slice oA av.length oc,.bool true,.bool false,.bool false] (0,0) _ rfl h8.k1 Tryz.underlying47 rfl (by kernel_rfl)) rfl ?_
    refine ⟨h8.bel,.inr ?_⟩
    obtain ⟨A,c,e1,hC⟩:=h8.reads hR.out
    have hkt:k=ts.length:=hkq.out
    have hm00:k=0→m=0:=fun h=>by
     have h9:=hm0.out
     obtain rfl:ts=[]:=List.eq_nil_of_length_eq_zero (by omega)
     exact h9.symm
    have hlen:=h8.len.2
    have hkm:(if k=0 then 0 else m)=m:=by
     split
     ·exact (hm00 (by assumption)).symm
     ·rfl
    rw [oD,hkm] at hlen
    injection e1 with e1 _ e2
    subst e1
    rw [← hlen] at hC
    refine ⟨m,oA,oc,fun y hy=>hG.out y (by rw [hkt,List.take_length];exact hy),fun h=>hm00 (by rw [hkt,h];rfl),by rw [← hlen],?_⟩
    unfold mid at hC
    rw [hkm,List.zipWith_map,List.zipWith_self] at hC
    simp only [Nat.not_lt_zero,if_false] at hC
    have hK:∀ j,fK keys k j=keys:=fun j=>by unfold fK;rw [hkt,← hk.out,List.take_length]
    have hV:∀ j,fV ts k j=ts.map fun t=>t.f3.getD j z25:=fun j=>by unfold fV;rw [hkt,List.take_length]
    simp only [hK,hV] at hC
    rw [hlen] at hC ⊢
    exact hC
  | succ gk =>
    have e0:decide (k < ts.length)=true:=decide_eq_true (by have:=hkq.out;omega)
    have hlt:k < ts.length:=by have:=hkq.out;omega
    obtain ⟨ad,X2,x2,X3,x3,rfl,q0,q1,q2,q3,l2,g2,l3,g3⟩:=qG h3.out (k:Int) (by omega) (by omega)
    obtain ⟨ad',Y2,y2,Y3,y3,hadd,r0,r1,r2,r3,m2,f2,m3,f3⟩:=qG h3.out (0:Int) (by omega) (by omega)
    obtain rfl:ad=ad':=by injection hadd
    rw [Int.toNat_natCast] at q0 q1 q2 q3
    replace q0:=(hS.out.bel.cell (World.block_lt_of_cell? w _ q0)).trans q0
    replace q1:=(hS.out.bel.cell (World.block_lt_of_cell? w _ q1)).trans q1
    replace q2:=(hS.out.bel.cell (World.block_lt_of_cell? w _ q2)).trans q2
    replace q3:=(hS.out.bel.cell (World.block_lt_of_cell? w _ q3)).trans q3
    replace r3:=(hS.out.bel.cell (World.block_lt_of_cell? w _ r3)).trans r3
    have hm1:(gV ts (0:Int)).f3.length=m:=hm0.out
    have p1:(0≤(k:Int))=True:=eq_true (by omega)
    have p2:((k:Int) < (ts.length:Int))=True:=eq_true (by omega)
    have p3:(0 < ts.length)=True:=eq_true (by omega)
    have p4:((0:Int) < (ts.length:Int))=True:=eq_true (by omega)
    rw [hm1,show ad.add (Int.toNat 0*4)=ad by simp [Addr.add]] at r3
    have hx:=ae.mk (show gV ts (k:Int)=ts[k] by unfold gV;rw [List.getD_eq_getElem?_getD,Int.toNat_natCast,List.getElem?_eq_getElem hlt];rfl)
    replace g3:=ae.mk g3
    clear g2 f2 f3 r0 r1 r2 hm1 l2 m2 m3 hadd
    generalize gV ts (k:Int)=t at *
    go_wp2_with (fail)
    obtain ⟨wk,hwk⟩:∃ wk,wr.alloc (.cells #[.int .i64 t.f0,.string t.f1,.slice X2 t.f2.length x2,.slice X3 t.f3.length x3] 25)=wk:=⟨_,rfl⟩
    have hb1:Below wr.heap.size wr wk:=by rw [← hwk];exact ai (Below.refl _ _) _
    have kk:wk.heap[wr.heap.size]?=some (.cells #[.int .i64 t.f0,.string t.f1,.slice X2 t.f2.length x2,.slice X3 t.f3.length x3] 25):=by rw [← hwk];exact dP _ _
    rw [hwk]
    replace hS:=ae.mk (hS.out.below hb1)
    replace r3:=(hb1.cell (World.block_lt_of_cell? wr _ r3)).trans r3
    have a3:wk.cell? ⟨w.heap.size,3,none⟩=some (.slice (some ad) ts.length c3):=(ah hS.out.k0 3).trans rfl
    have b0:wk.cell? ⟨wr.heap.size,0,none⟩=some (.int .i64 t.f0):=(ah kk 0).trans rfl
    have b3:wk.cell? ⟨wr.heap.size,3,none⟩=some (.slice X3 t.f3.length x3):=(ah kk 3).trans rfl
    replace kk:=ae.mk kk
    clear hb1 hwk q0 q1 q2 q3
    by_cases h5:t.f0=5
    ·have e5:(t.f0 != 5)=false:=by rw [h5];rfl
     replace h5:=ae.mk h5
     by_cases hm5:t.f3.length=m
     ·have e6:((m:Int) != (m:Int))=false:=bne_self_eq_false _
      have g3':=g3.out
      rw [hm5] at b3 g3' l3
      replace g3:=ae.mk g3'
      clear g3'
      replace hm5:=ae.mk hm5
      go_quiet (fail)
      replace hS:=ae.mk (hS.out.below (ag (Below.refl _ _) nq))
      clear r3 a3 b0
      go_wp2_with (fail)
      clear b3
      obtain ⟨wn,hwn⟩:∃ wn,wk.drewN nq=wn:=⟨_,rfl⟩
      rw [hwn] at hS ⊢
      clear hwn
      go_loopg [36] m (fun iq v36 W=>∃ (i:Nat) (o:Value) (av:List (Value × Value)) (xs:List (Nat × List Value)),v36 = .int .i64 (i:Int)∧ae (i+iq=m)∧ae (Gst w (xC txt A2 keys.length c2 (some ad) ts.length c3) z7 o o [] [] (mid (fK keys) m k i) av xs W)∧ae (Rps w (mid (fV ts) m k i) xs))
      case atStart=>exact ⟨0,o,av,xs,rfl,⟨by omega⟩,hS,hR⟩
      case round =>
       clear hS hR
       obtain ⟨i,o,av,xs,rfl,hiq,hS,hR⟩:=hrel
       cases gk with
       | zero =>
         have e1:decide (i < m)=false:=decide_eq_false (by have:=hiq.out;omega)
         obtain rfl:i=m:=hiq.out
         go_wp2_with (fail)
         go_roundg gk
         case measure=>omega
         case rel =>
          have h1:=hS.out
          have h2:=hR.out
          rw [CU] at h1 h2
          refine ⟨k+1,o,av,xs,by congr 1,⟨by have:=hkq.out;omega⟩,⟨h1⟩,⟨h2⟩,⟨fun y hy=>?_⟩⟩
          rw [List.take_succ_eq_append_getElem hlt] at hy
          rcases List.mem_append.1 hy with hy | hy
          ·exact hG.out y hy
          ·obtain rfl:=List.mem_singleton.1 hy
           rw [← hx.out]
           exact ⟨h5.out,hm5.out⟩
       | succ gi =>
         have hi:i < m:=by have:=hiq.out;omega
         have e1:decide (i < m)=true:=decide_eq_true hi
         have p5:(0≤(i:Int))=True:=eq_true (by omega)
         have p6:((i:Int) < (m:Int))=True:=eq_true (by omega)
         obtain ⟨av0,V2,n2,V3,n3,rfl,t0,t1,t2,t3,l4,f4,l5,f5⟩:=qG g3.out (i:Int) (by omega) (by omega)
         rw [Int.toNat_natCast] at t0 t1 t2 t3
         replace t0:=(hS.out.bel.cell (World.block_lt_of_cell? w _ t0)).trans t0
         replace t1:=(hS.out.bel.cell (World.block_lt_of_cell? w _ t1)).trans t1
         replace t2:=(hS.out.bel.cell (World.block_lt_of_cell? w _ t2)).trans t2
         replace t3:=(hS.out.bel.cell (World.block_lt_of_cell? w _ t3)).trans t3
         have hKv:=ae.mk (DY w (gV t.f3 (i:Int)) l4 f4 l5 f5)
         have hxv:=ae.mk (show gV t.f3 (i:Int)=t.f3.getD i z25 by unfold gV;rw [Int.toNat_natCast])
         clear f4 f5 l4 l5
         generalize gV t.f3 (i:Int)=v at *
         have hSv:=hS.out.var [.int .i64 v.f0,.string v.f1,.slice V2 v.f2.length n2,.slice V3 v.f3.length n3] rfl
         replace hSv:=ae.mk hSv
         obtain ⟨b0,hb0,e2⟩:∃ b,(b=true→k=0)∧((k:Int) == 0)=b:=⟨_,fun h=>by have:=beq_iff_eq.mp h;omega,rfl⟩
         have hb1:b0=false→k≠0:=fun h h2=>by subst h2;rw [← e2] at h;cases h
         replace hb0:=ae.mk hb0
         replace hb1:=ae.mk hb1
         go_upto_if 42 with (fail)
         obtain ⟨wv,hwv⟩:∃ wv,wr.alloc (.cells #[.int .i64 v.f0,.string v.f1,.slice V2 v.f2.length n2,.slice V3 v.f3.length n3] 25)=wv:=⟨_,rfl⟩
         rw [show wr.alloc (.cells [Value.int .i64 v.f0,.string v.f1,.slice V2 v.f2.length n2,.slice V3 v.f3.length n3].toArray 25)=wv from hwv] at hSv
         rw [hwv]
         obtain ⟨vb,hvb⟩:∃ vb,wr.heap.size=vb:=⟨_,rfl⟩
         rw [hvb] at hSv ⊢
         clear e2 hwv hvb t0 t1 t2 t3 hS
         go_cut [36,97,98,99] from 37 (fun v36 v97 v98 v99 wc=>v36 = .int .i64 (i:Int)∧v97=u97∧v98=undef∧v99=undef∧∃ (o:Value) (av:List (Value × Value)) (xs:List (Nat × List Value)),ae (Gst w (xC txt A2 keys.length c2 (some ad) ts.length c3) z7 o o [.slice (some ⟨vb,0,none⟩) 1 1] [(1,[.int .i64 v.f0,.string v.f1,.slice V2 v.f2.length n2,.slice V3 v.f3.length n3])] (pre (fK keys) m k i) av xs wc)∧ae (Rps w (pre (fV ts) m k i) xs))
         case first =>
          cases b0 with
          | true =>
            have hk0:=ae.mk (hb0.out rfl)
            clear hb0 hb1
            obtain ⟨oA,oc,rfl⟩:=ja hSv.out.row3
            have c3':wv.cell? ⟨w.heap.size+1+1,3,none⟩=some (.slice oA av.length oc):=(ah hSv.out.k2 3).trans rfl
            have hal:av.length≤65536:=by
             have h1:=hSv.out.len.2
             rw [oD,if_pos hk0.out] at h1
             have:=hm.out t (by rw [hx.out];exact List.getElem_mem hlt) h5.out
             have:=hm5.out
             omega
            go_wp2_with (first | ((with_reducible refine cO (b:=.append) (xs:=#[.tmp 44,.tmp 46]) rfl ?_);at_builtin;refine lF (w0:=wv) (W:=wv) (w.heap.size+3) rfl (.tmp 44) (.tmp 46) 23 25 _ 4 72 rfl Tryz.underlying23 info25 rfl (by decide) (by decide) (.slice oA av.length oc) av.length (flat av) [.int .i64 6,.string ⟨#[]⟩,.slice none 0 0,.slice none 0 0] rfl (by simp [Act.eval]) rfl ?a1 ?aO ?aB ?aS ?aL ?_;(case a1=>intro u hu;simp only [List.mem_cons,List.not_mem_nil,or_false] at hu;rcases hu with rfl | rfl | rfl | rfl <;> rfl);(case aO=>exact hSv.out.row3);(case aB=>exact Below.refl _ _);(case aS=>exact hSv.out.size);(case aL=>omega);intro v1 w6 ho hb hg hat;have hS6:=ae.mk (hSv.out.obj ho (hSv.out.bel.trans (Below.mono hb (by omega))) hg hat);obtain ⟨a6,n6,e6⟩:=ja ho;subst e6;have c6:w6.cell? ⟨w.heap.size+1+1,3,none⟩=some (.slice oA av.length oc):=(ah hS6.out.k2 3).trans rfl;have f6:w6.frozen? ⟨w.heap.size+1+1,3,none⟩=false:=ak hS6.out.k2 3;clear ho hb hg hat))
            go_meet
            case rel =>
             refine ⟨rfl,rfl,rfl,rfl,.slice a6 (av.length+1) n6,av ++ [(.slice none 0 0,.slice none 0 0)],xs ++ [(0,[])],⟨?_⟩,⟨?_⟩⟩
             ·have:=hS6.out.GV (.slice a6 (av.length+1) n6)
              unfold pre
              rw [if_pos hk0.out]
              exact this
             ·unfold pre
              rw [if_pos hk0.out]
              exact hR.out.obj
          | false =>
            have hk0:=ae.mk (hb1.out rfl)
            clear hb0 hb1
            go_wp2_with (fail)
            go_meet
            case rel =>
             refine ⟨rfl,rfl,rfl,rfl,o,av,xs,⟨?_⟩,⟨?_⟩⟩
             ·unfold pre
              rw [if_neg hk0.out]
              exact hSv.out
             ·unfold pre
              rw [if_neg hk0.out]
              exact hR.out
         case rest =>
          clear hSv hR
          obtain ⟨rfl,rfl,rfl,rfl,o,av,xs,hS,hR⟩:=hcut
          obtain ⟨al1,al2⟩:=hS.out.len
          have hpl:=zK (f:=fK keys) (k:=k) hi
          have hml:m≤65536:=by
           have:=hm.out t (by rw [hx.out];exact List.getElem_mem hlt) h5.out
           have:=hm5.out
           omega
          have hia:i < av.length:=by omega
          obtain ⟨g,cap,hv3,hbg,hnc⟩:=pq hS.out.row3 (by omega)
          subst hv3
          have ha:=List.getElem?_eq_getElem hia
          generalize av[i]=a at ha
          obtain ⟨x,hxx⟩:∃ x,xs[i]?=some x:=⟨_,List.getElem?_eq_getElem (by omega)⟩
          have hKo:=hS.out.He (pX (f:=fK keys) (k:=k) (fun _=>rfl) hi) ha
          have hVo:=hS.out.zG hxx ha
          obtain ⟨Ka,kc,hka⟩:=ja hKo
          obtain ⟨Va,vc,hva⟩:=ja hVo
          obtain ⟨a1,a2⟩:=a
          have hka':a1 = .slice Ka (fK keys k i).length kc:=hka
          have hva':a2 = .slice Va x.1 vc:=hva
          subst hka'
          subst hva'
          obtain ⟨fl2,fl3⟩:=su _ _ _ ha
          have hs2:=hS.out.row3.cells (g:=g) rfl (i*4+2) _ fl2
          rw [mY] at hs2
          obtain ⟨bd,rfl,hkey⟩:=Kd.mG h2.out (k:Int) (by omega) (by have:=hk.out;omega)
          rw [Int.toNat_natCast] at hkey
          have hkey0:=ae.mk hkey
          replace hkey:=(hS.out.bel.cell (World.block_lt_of_cell? w _ hkey)).trans hkey
          have hkx:=ae.mk (show uu ByteArray.empty keys (k:Int)=keys[k]'(by have:=hk.out;omega) by unfold uu;rw [List.getD_eq_getElem?_getD,Int.toNat_natCast,List.getElem?_eq_getElem (by have:=hk.out;omega)];rfl)
          generalize uu ByteArray.empty keys (k:Int)=key at *
          have hc3:wc.cell? ⟨w.heap.size+1+1,3,none⟩=some (.slice (some ⟨g,0,none⟩) av.length cap):=(ah hS.out.k2 3).trans rfl
          have hn2:wc.cell? ⟨w.heap.size,2,none⟩=some (.slice (some bd) keys.length c2):=(ah hS.out.k0 2).trans rfl
          have p7:((i:Int) < (av.length:Int))=True:=eq_true (by omega)
          have p8:((k:Int) < (keys.length:Int))=True:=eq_true (by have:=hk.out;omega)
          have hkl:(fK keys k i).length≤65536:=by unfold fK;rw [List.length_take];omega
          have hkeya:(wc.drew.alloc (.cells #[.string key] 9)).cell? (bd.add k)=some (.string key):=((ai (Below.refl _ _) (.cells #[.string key] 9)).cell (World.block_lt_of_cell? wc.drew _ hkey)).trans hkey
          have hs2a:(wc.drew.alloc (.cells #[.string key] 9)).cell? ⟨g,i*4+2,none⟩=some (.slice Ka (fK keys k i).length kc):=((ai (Below.refl _ _) (.cells #[.string key] 9)).cell (World.block_lt_of_cell? wc.drew _ hs2)).trans hs2
          replace ha:=ae.mk ha
          replace hKo:=ae.mk hKo
          replace hVo:=ae.mk hVo
          replace hxx:=ae.mk hxx
          have hal:=ae.mk (And.intro al1 al2)
          have hfl:=ae.mk (And.intro fl2 fl3)
          clear hka hva al1 al2 fl2 fl3
          go_wp2_with (fail)
          refine nT (n:=19) (S:=fun w'=>w'.cell? ⟨w.heap.size+1+1,3,none⟩=some (.slice (some ⟨g,0,none⟩) av.length cap)∧w'.cell? ⟨g,i*4+2,none⟩=some (.slice Ka (fK keys k i).length kc)∧w'.cell? ⟨w.heap.size,2,none⟩=some (.slice (some bd) keys.length c2)∧w'.cell? (bd.add k)=some (.string key)) (ds:=[18]) (on 19 0) (by kernel_rfl) rfl rfl ⟨hc3,hs2,hn2,hkey⟩ (fun hHeld=>?_);refine jS Gf D6 (fun HT_ HW_=>?_)
          refine dA (i:=0) (N:=some 49) (v:=?_) (a':=?_) (on 19 1) rfl rfl (bV HT_.out (by kernel_rfl)) (fun _ _ _ h=>h) (Or.inl ⟨by rfl,?_⟩) ?_ ?_;rotate_left;(intro w';go_simp;with_reducible rfl);rotate_left;(simp only [Act.put,List.setIfInBounds_toArray,List.set_cons_zero,List.set_cons_succ,bf,bD];rfl)
          refine iL (i:=1) (N:=some 50) (v:=?_) (a':=?_) (on 19 2) rfl rfl (eH HT_.out HW_.out (by kernel_rfl)) (fun _ _ _ h=>h) (Or.inl ⟨by rfl,?_⟩) hHeld ?_ ?_;rotate_left;(rintro w' ⟨s0,s1,s2,s3⟩;go_simp;with_reducible rfl);rotate_left;(simp only [Act.put,List.setIfInBounds_toArray,List.set_cons_zero,List.set_cons_succ,bf,bD];rfl)
          refine dA (i:=2) (N:=some 51) (v:=?_) (a':=?_) (on 19 3) rfl rfl (bV HT_.out (by kernel_rfl)) (fun _ _ _ h=>h) (Or.inl ⟨by rfl,?_⟩) ?_ ?_;rotate_left;(intro w';go_simp;with_reducible rfl);rotate_left;(simp only [Act.put,List.setIfInBounds_toArray,List.set_cons_zero,List.set_cons_succ,bf,bD];rfl)
          refine dA (i:=3) (N:=some 52) (v:=?_) (a':=?_) (on 19 4) rfl rfl (bV HT_.out (by kernel_rfl)) (fun _ _ _ h=>h) (Or.inl ⟨by rfl,?_⟩) ?_ ?_;rotate_left;(intro w';go_simp;with_reducible rfl);rotate_left;(simp only [Act.put,List.setIfInBounds_toArray,List.set_cons_zero,List.set_cons_succ,bf,bD];rfl)
          refine iL (i:=4) (N:=some 53) (v:=?_) (a':=?_) (on 19 5) rfl rfl (eH HT_.out HW_.out (by kernel_rfl)) (fun _ _ _ h=>h) (Or.inl ⟨by rfl,?_⟩) hHeld ?_ ?_;rotate_left;(rintro w' ⟨s0,s1,s2,s3⟩;go_simp;with_reducible rfl);rotate_left;(simp only [Act.put,List.setIfInBounds_toArray,List.set_cons_zero,List.set_cons_succ,bf,bD];rfl)
          refine dA (i:=5) (N:=some 54) (v:=?_) (a':=?_) (on 19 6) rfl rfl (bV HT_.out (by kernel_rfl)) (fun _ _ _ h=>h) (Or.inl ⟨by rfl,?_⟩) ?_ ?_;rotate_left;(intro w';go_simp;with_reducible rfl);rotate_left;(simp only [Act.put,List.setIfInBounds_toArray,List.set_cons_zero,List.set_cons_succ,bf,bD];rfl)
          refine dA (i:=6) (N:=some 55) (v:=?_) (a':=?_) (on 19 7) rfl rfl (bV HT_.out (by kernel_rfl)) (fun _ _ _ h=>h) (Or.inl ⟨by rfl,?_⟩) ?_ ?_;rotate_left;(intro w';go_simp;with_reducible rfl);rotate_left;(simp only [Act.put,List.setIfInBounds_toArray,List.set_cons_zero,List.set_cons_succ,bf,bD];rfl)
          refine dA (i:=7) (N:=some 56) (v:=?_) (a':=?_) (on 19 8) rfl rfl (bV HT_.out (by kernel_rfl)) (fun _ _ _ h=>h) (Or.inl ⟨by rfl,?_⟩) ?_ ?_;rotate_left;(intro w';go_simp;with_reducible rfl);rotate_left;(simp only [Act.put,List.setIfInBounds_toArray,List.set_cons_zero,List.set_cons_succ,bf,bD];rfl)
          refine iL (i:=8) (N:=some 57) (v:=?_) (a':=?_) (on 19 9) rfl rfl (eH HT_.out HW_.out (by kernel_rfl)) (fun _ _ _ h=>h) (Or.inl ⟨by rfl,?_⟩) hHeld ?_ ?_;rotate_left;(rintro w' ⟨s0,s1,s2,s3⟩;go_simp;with_reducible rfl);rotate_left;(simp only [Act.put,List.setIfInBounds_toArray,List.set_cons_zero,List.set_cons_succ,bf,bD];rfl)
          refine dA (i:=9) (N:=some 58) (v:=?_) (a':=?_) (on 19 10) rfl rfl (bV HT_.out (by kernel_rfl)) (fun _ _ _ h=>h) (Or.inl ⟨by rfl,?_⟩) ?_ ?_;rotate_left;(intro w';go_simp;with_reducible rfl);rotate_left;(simp only [Act.put,List.setIfInBounds_toArray,List.set_cons_zero,List.set_cons_succ,bf,bD];rfl)
          refine iL (i:=10) (N:=some 59) (v:=?_) (a':=?_) (on 19 11) rfl rfl (eH HT_.out HW_.out (by kernel_rfl)) (fun _ _ _ h=>h) (Or.inl ⟨by rfl,?_⟩) hHeld ?_ ?_;rotate_left;(rintro w' ⟨s0,s1,s2,s3⟩;go_simp;with_reducible rfl);rotate_left;(simp only [Act.put,List.setIfInBounds_toArray,List.set_cons_zero,List.set_cons_succ,bf,bD];rfl)
          refine dA (i:=11) (N:=some 60) (v:=?_) (a':=?_) (on 19 12) rfl rfl (bV HT_.out (by kernel_rfl)) (fun _ _ _ h=>h) (Or.inl ⟨by rfl,?_⟩) ?_ ?_;rotate_left;(intro w';go_simp;with_reducible rfl);rotate_left;(simp only [Act.put,List.setIfInBounds_toArray,List.set_cons_zero,List.set_cons_succ,bf,bD];rfl)
          refine dA (i:=12) (N:=some 61) (v:=?_) (a':=?_) (on 19 13) rfl rfl (bV HT_.out (by kernel_rfl)) (fun _ _ _ h=>h) (Or.inl ⟨by rfl,?_⟩) ?_ ?_;rotate_left;(intro w';go_simp;with_reducible rfl);rotate_left;(simp only [Act.put,List.setIfInBounds_toArray,List.set_cons_zero,List.set_cons_succ,bf,bD];rfl)
          refine iL (i:=13) (N:=some 62) (v:=?_) (a':=?_) (on 19 14) rfl rfl (eH HT_.out HW_.out (by kernel_rfl)) (fun _ _ _ h=>h) (Or.inl ⟨by rfl,?_⟩) hHeld ?_ ?_;rotate_left;(rintro w' ⟨s0,s1,s2,s3⟩;go_simp;with_reducible rfl);rotate_left;(simp only [Act.put,List.setIfInBounds_toArray,List.set_cons_zero,List.set_cons_succ,bf,bD];rfl)
          refine nI (i:=14) (N:=some 63) (on 19 15) rfl rfl (iM HT_.out (by kernel_rfl)) (by decide) (fun K hK=>?_)
          refine yP (v:=.slice (some ⟨wc.drew.heap.size,0,none⟩) 1 1) (w1:=wc.drew.alloc (.cells #[.string key] 9)) (by rfl) rfl ?_ ?_
          ·go_simp
          refine hK.out _ _ ⟨(ah (hS.out.drew.alloc (.cells #[.string key] 9)).k2 3).trans rfl,hs2a,(ah (hS.out.drew.alloc (.cells #[.string key] 9)).k0 2).trans rfl,hkeya⟩ (fun hHeld=>?_)
          clear hK K
          refine lD (a':=?_) ?_ ?_
          rotate_left
          ·show Act.put _ (some 63) _=_
           simp only [Act.put,List.setIfInBounds_toArray,List.set_cons_zero,List.set_cons_succ,bf,bD]
           rfl
          refine nI (i:=15) (N:=some 64) (on 19 16) rfl rfl (iM HT_.out (by kernel_rfl)) (by decide) (fun K hK=>?_)
          refine jC (w0:=wc) (W:=wc.drew) (w.heap.size+3) (by rfl) (.tmp 57) (.tmp 63) 22 9 _ 1 16 rfl Tryz.underlying22 info9 rfl (by decide) (by decide) (.slice Ka (fK keys k i).length kc) (fK keys k i).length (encs Value.string (fK keys k i)) [.string key] (by simp [Act.eval,Act.put]) (by simp [Act.eval,Act.put]) rfl ?a1 ?aO ?aB ?aS ?aL ?_
          case a1=>intro u hu;simp only [List.mem_cons,List.not_mem_nil,or_false] at hu;subst hu;rfl
          case aO=>exact hKo.out
          case aB=>exact Below.mono (dm (Below.refl _ _)) hS.out.size
          case aS=>exact hS.out.size
          case aL=>omega
          intro v1 w6 ho hb hg hat
          obtain ⟨A6,n6,e6⟩:=ja ho
          subst e6
          have hB6:=hS.out.bel.trans (Below.mono hb (by omega))
          have hS6:=hS.out.drew.key (av:=av) (i:=i) (v1:=.slice A6 ((fK keys k i).length+1) n6) (key:=key) (pX (fun _=>rfl) hi) ha.out ho hB6 hg hat
          have hL6:=hS.out.drew.stand hKo.out hg (.inr (Fj hS.out.row3 hKo.out)) hfl.out.1
          have f6:=hL6.2.2.2
          replace hS6:=ae.mk hS6
          refine hK.out _ _ ⟨(ah hL6.2.1 3).trans rfl,hL6.2.2.1,(ah hL6.1 2).trans rfl,(hB6.cell (World.block_lt_of_cell? w _ hkey0.out)).trans hkey0.out⟩ (fun hHeld=>?_)
          clear hK K
          refine lD (a':=?_) ?_ ?_
          rotate_left
          ·show Act.put _ (some 64) _=_
           simp only [Act.put,List.setIfInBounds_toArray,List.set_cons_zero,List.set_cons_succ,bf,bD]
           rfl
          refine dA (i:=16) (N:=some 65) (v:=?_) (a':=?_) (on 19 17) rfl rfl (bV HT_.out (by kernel_rfl)) (fun _ _ _ h=>h) (Or.inl ⟨by rfl,?_⟩) ?_ ?_;rotate_left;(intro w';go_simp;with_reducible rfl);rotate_left;(simp only [Act.put,List.setIfInBounds_toArray,List.set_cons_zero,List.set_cons_succ,bf,bD];rfl)
          refine dA (i:=17) (N:=some 66) (v:=?_) (a':=?_) (on 19 18) rfl rfl (bV HT_.out (by kernel_rfl)) (fun _ _ _ h=>h) (Or.inl ⟨by rfl,?_⟩) ?_ ?_;rotate_left;(intro w';go_simp;with_reducible rfl);rotate_left;(simp only [Act.put,List.setIfInBounds_toArray,List.set_cons_zero,List.set_cons_succ,bf,bD];rfl)
          refine zL (i:=18) (N:=none) (on 19 19) rfl rfl (iM HT_.out (by kernel_rfl)) (by decide) (fun K hK=>?_)
          refine tZ (w1:=?_) (by rfl) rfl ?_ ?_
          rotate_left
          ·go_simp
           rfl
          refine hK.out _ _ ?_
          clear hK K
          refine rq (lQ HT_.out (by kernel_rfl)) ?_
          obtain ⟨w7,hw7⟩:∃ w7,w6.setCell ⟨g,i*4+2,none⟩ (.slice A6 ((fK keys k i).length+1) n6)=w7:=⟨_,rfl⟩
          rw [hw7] at hS6 ⊢
          obtain ⟨av',hav'⟩:∃ av',av.set i (.slice A6 ((fK keys k i).length+1) n6,.slice Va x.1 vc)=av':=⟨_,rfl⟩
          have hfk:fK keys k i ++ [key]=fK keys (k+1) i:=by
           unfold fK
           rw [hkx.out,List.take_succ_eq_append_getElem]
          have hS7:=hS6.out
          rw [hfk,Aw hi,hav'] at hS7
          have ha':av'[i]?=some (.slice A6 ((fK keys k i).length+1) n6,.slice Va x.1 vc):=by
           rw [← hav',List.getElem?_set_self hia]
          have hal':av'.length=av.length:=by rw [← hav',List.length_set]
          have hxl:=hR.out.at_ i _ x (pX (f:=fV ts) (k:=k) (fun _=>rfl) hi) hxx.out
          rw [← hal'] at hS7
          replace hS7:=ae.mk hS7
          replace ha':=ae.mk ha'
          replace hxl:=ae.mk hxl
          replace hal':=ae.mk hal'
          clear hw7 hav' hfk hS6 hkey hkeya hs2 hs2a hc3 hn2 p8 hHeld HT_ HW_ hkl
          clear ha hS hKo hVo f6 hB6 hL6 ho hb hg hat hkey0 hkx
          go_wp2_with (fail)
          have hi':=Aw (f:=fV ts) (k:=k) hi
          have hvk:fV ts k i ++ [v]=fV ts (k+1) i:=by
           unfold fV
           rw [List.take_succ_eq_append_getElem hlt,List.map_append,List.map_singleton,← hx.out,hxv.out]
          replace hi':=ae.mk hi'
          replace hvk:=ae.mk hvk
          go_region
          ·obtain ⟨wz,hwz⟩:∃ wz,(w7.alloc (.cells #[.bool false] 4)).drew=wz:=⟨_,rfl⟩
           have hSz:=(hS7.out.alloc (.cells #[.bool false] 4)).drew
           rw [hwz] at hSz ⊢
           have hVz:=ae.mk (hSz.zG hxx.out ha'.out)
           obtain ⟨fl2,fl3⟩:=su _ _ _ ha'.out
           have hs3c:wz.cell? ⟨g,i*4+3,none⟩=some (.slice Va x.1 vc):=by
            have:=hSz.row3.cells (g:=g) rfl (i*4+3) _ fl3
            rwa [mY] at this
           have hc3:wz.cell? ⟨w.heap.size+1+1,3,none⟩=some (.slice (some ⟨g,0,none⟩) av'.length cap):=(ah hSz.k2 3).trans rfl
           have hq0:=hSz.lg 0 rfl
           have hq1:=hSz.lg 1 rfl
           have hq2:=hSz.lg 2 rfl
           have hq3:=hSz.lg 3 rfl
           have hf3:=ae.mk fl3
           have p8:((i:Int) < (av'.length:Int))=True:=eq_true (by have:=hal'.out;omega)
           have hxn:x.1≤65536:=by rw [hxl.out.1];unfold fV;rw [List.length_map,List.length_take];omega
           replace hxn:=ae.mk hxn
           replace hSz:=ae.mk hSz
           clear hwz fl2 fl3
           go_wp2_with (fail)
           refine nT (n:=15) (S:=fun w'=>w'.cell? ⟨w.heap.size+1+1,3,none⟩=some (.slice (some ⟨g,0,none⟩) av'.length cap)∧w'.cell? ⟨g,i*4+3,none⟩=some (.slice Va x.1 vc)∧w'.cell? ⟨vb,0,none⟩=some (.int .i64 v.f0)∧w'.cell? ⟨vb,1,none⟩=some (.string v.f1)∧w'.cell? ⟨vb,2,none⟩=some (.slice V2 v.f2.length n2)∧w'.cell? ⟨vb,3,none⟩=some (.slice V3 v.f3.length n3)) (ds:=[14]) (on 15 0) (by kernel_rfl) rfl rfl ⟨hc3,hs3c,hq0,hq1,hq2,hq3⟩ (fun hHeld=>?_);refine jS Gi DU (fun HT_ HW_=>?_)
           refine dA (i:=0) (N:=some 82) (v:=?_) (a':=?_) (on 15 1) rfl rfl (bV HT_.out (by kernel_rfl)) (fun _ _ _ h=>h) (Or.inl ⟨by rfl,?_⟩) ?_ ?_;rotate_left;(intro w';go_simp;with_reducible rfl);rotate_left;(simp only [Act.put,List.setIfInBounds_toArray,List.set_cons_zero,List.set_cons_succ,bf,bD];rfl)
           refine iL (i:=1) (N:=some 83) (v:=?_) (a':=?_) (on 15 2) rfl rfl (eH HT_.out HW_.out (by kernel_rfl)) (fun _ _ _ h=>h) (Or.inl ⟨by rfl,?_⟩) hHeld ?_ ?_;rotate_left;(rintro w' ⟨s0,s1,s2,s3,s4,s5⟩;go_simp;with_reducible rfl);rotate_left;(simp only [Act.put,List.setIfInBounds_toArray,List.set_cons_zero,List.set_cons_succ,bf,bD];rfl)
           refine dA (i:=2) (N:=some 84) (v:=?_) (a':=?_) (on 15 3) rfl rfl (bV HT_.out (by kernel_rfl)) (fun _ _ _ h=>h) (Or.inl ⟨by rfl,?_⟩) ?_ ?_;rotate_left;(intro w';go_simp;with_reducible rfl);rotate_left;(simp only [Act.put,List.setIfInBounds_toArray,List.set_cons_zero,List.set_cons_succ,bf,bD];rfl)
           refine dA (i:=3) (N:=some 85) (v:=?_) (a':=?_) (on 15 4) rfl rfl (bV HT_.out (by kernel_rfl)) (fun _ _ _ h=>h) (Or.inl ⟨by rfl,?_⟩) ?_ ?_;rotate_left;(intro w';go_simp;with_reducible rfl);rotate_left;(simp only [Act.put,List.setIfInBounds_toArray,List.set_cons_zero,List.set_cons_succ,bf,bD];rfl)
           refine iL (i:=4) (N:=some 86) (v:=?_) (a':=?_) (on 15 5) rfl rfl (eH HT_.out HW_.out (by kernel_rfl)) (fun _ _ _ h=>h) (Or.inl ⟨by rfl,?_⟩) hHeld ?_ ?_;rotate_left;(rintro w' ⟨s0,s1,s2,s3,s4,s5⟩;go_simp;with_reducible rfl);rotate_left;(simp only [Act.put,List.setIfInBounds_toArray,List.set_cons_zero,List.set_cons_succ,bf,bD];rfl)
           refine dA (i:=5) (N:=some 87) (v:=?_) (a':=?_) (on 15 6) rfl rfl (bV HT_.out (by kernel_rfl)) (fun _ _ _ h=>h) (Or.inl ⟨by rfl,?_⟩) ?_ ?_;rotate_left;(intro w';go_simp;with_reducible rfl);rotate_left;(simp only [Act.put,List.setIfInBounds_toArray,List.set_cons_zero,List.set_cons_succ,bf,bD];rfl)
           refine dA (i:=6) (N:=some 88) (v:=?_) (a':=?_) (on 15 7) rfl rfl (bV HT_.out (by kernel_rfl)) (fun _ _ _ h=>h) (Or.inl ⟨by rfl,?_⟩) ?_ ?_;rotate_left;(intro w';go_simp;with_reducible rfl);rotate_left;(simp only [Act.put,List.setIfInBounds_toArray,List.set_cons_zero,List.set_cons_succ,bf,bD];rfl)
           refine dA (i:=7) (N:=some 89) (v:=?_) (a':=?_) (on 15 8) rfl rfl (bV HT_.out (by kernel_rfl)) (fun _ _ _ h=>h) (Or.inl ⟨by rfl,?_⟩) ?_ ?_;rotate_left;(intro w';go_simp;with_reducible rfl);rotate_left;(simp only [Act.put,List.setIfInBounds_toArray,List.set_cons_zero,List.set_cons_succ,bf,bD];rfl)
           refine iL (i:=8) (N:=some 90) (v:=?_) (a':=?_) (on 15 9) rfl rfl (eH HT_.out HW_.out (by kernel_rfl)) (fun _ _ _ h=>h) (Or.inl ⟨by rfl,?_⟩) hHeld ?_ ?_;rotate_left;(rintro w' ⟨s0,s1,s2,s3,s4,s5⟩;go_simp;with_reducible rfl);rotate_left;(simp only [Act.put,List.setIfInBounds_toArray,List.set_cons_zero,List.set_cons_succ,bf,bD];rfl)
           refine iL (i:=9) (N:=some 91) (v:=?_) (a':=?_) (on 15 10) rfl rfl (eH HT_.out HW_.out (by kernel_rfl)) (fun _ _ _ h=>h) (Or.inl ⟨by rfl,?_⟩) hHeld ?_ ?_;rotate_left;(rintro w' ⟨s0,s1,s2,s3,s4,s5⟩;go_simp;with_reducible rfl);rotate_left;(simp only [Act.put,List.setIfInBounds_toArray,List.set_cons_zero,List.set_cons_succ,bf,bD];rfl)
           refine nI (i:=10) (N:=some 92) (on 15 11) rfl rfl (iM HT_.out (by kernel_rfl)) (by decide) (fun K hK=>?_)
           refine yP (v:=.slice (some ⟨wz.drew.heap.size,0,none⟩) 1 1) (w1:=wz.drew.alloc (.cells #[.int .i64 v.f0,.string v.f1,.slice V2 v.f2.length n2,.slice V3 v.f3.length n3] 25)) (by rfl) rfl ?_ ?_
           ·go_simp
           refine hK.out _ _ ⟨(ah (hSz.out.drew.alloc (.cells #[.int .i64 v.f0,.string v.f1,.slice V2 v.f2.length n2,.slice V3 v.f3.length n3] 25)).k2 3).trans rfl,GM hs3c _,(hSz.out.drew.alloc (.cells #[.int .i64 v.f0,.string v.f1,.slice V2 v.f2.length n2,.slice V3 v.f3.length n3] 25)).lg 0 rfl,(hSz.out.drew.alloc (.cells #[.int .i64 v.f0,.string v.f1,.slice V2 v.f2.length n2,.slice V3 v.f3.length n3] 25)).lg 1 rfl,(hSz.out.drew.alloc (.cells #[.int .i64 v.f0,.string v.f1,.slice V2 v.f2.length n2,.slice V3 v.f3.length n3] 25)).lg 2 rfl,(hSz.out.drew.alloc (.cells #[.int .i64 v.f0,.string v.f1,.slice V2 v.f2.length n2,.slice V3 v.f3.length n3] 25)).lg 3 rfl⟩ (fun hHeld=>?_)
           clear hK K
           refine lD (a':=?_) ?_ ?_
           rotate_left
           ·show Act.put _ (some 92) _=_
            simp only [Act.put,List.setIfInBounds_toArray,List.set_cons_zero,List.set_cons_succ,bf,bD]
            rfl
           refine nI (i:=11) (N:=some 93) (on 15 12) rfl rfl (iM HT_.out (by kernel_rfl)) (by decide) (fun K hK=>?_)
           refine jC (w0:=wz) (W:=wz.drew) (w.heap.size+3) (by rfl) (.tmp 90) (.tmp 92) 23 25 _ 4 72 rfl Tryz.underlying23 info25 rfl (by decide) (by decide) (.slice Va x.1 vc) x.1 x.2 [.int .i64 v.f0,.string v.f1,.slice V2 v.f2.length n2,.slice V3 v.f3.length n3] (by simp [Act.eval,Act.put]) (by simp [Act.eval,Act.put]) rfl ?a1 ?aO ?aB ?aS ?aL ?_
           case a1=>intro u hu;simp only [List.mem_cons,List.not_mem_nil,or_false] at hu;rcases hu with rfl | rfl | rfl | rfl <;> rfl
           case aO=>exact hVz.out
           case aB=>exact Below.mono (dm (Below.refl _ _)) hSz.out.size
           case aS=>exact hSz.out.size
           case aL=>have:=hxn.out;omega
           intro v1 w8 ho hb hg hat
           obtain ⟨g8,n8,e8,hg8,_⟩:=pq ho (Nat.succ_pos _)
           subst e8
           have hB8:=hSz.out.bel.trans (Below.mono hb (by omega))
           have hS8:=hSz.out.drew.kid (av:=av') (i:=i) (v1:=.slice (some ⟨g8,0,none⟩) (x.1+1) n8) (x:=x) hxx.out ha'.out ho hB8 hg hat
           have hL8:=hSz.out.drew.stand hVz.out hg (.inr (hSz.out.gne ha'.out)) hf3.out
           have f8:=hL8.2.2.2
           have hv8:=fun j x=>hSz.out.drew.Gt ha'.out hg j (x:=x)
           replace hS8:=ae.mk hS8
           replace hv8:=ae.mk hv8
           refine hK.out _ _ ⟨(ah hL8.2.1 3).trans rfl,hL8.2.2.1,hv8.out 0 _ rfl,hv8.out 1 _ rfl,hv8.out 2 _ rfl,hv8.out 3 _ rfl⟩ (fun hHeld=>?_)
           clear hK K
           refine lD (a':=?_) ?_ ?_
           rotate_left
           ·show Act.put _ (some 93) _=_
            simp only [Act.put,List.setIfInBounds_toArray,List.set_cons_zero,List.set_cons_succ,bf,bD]
            rfl
           refine dA (i:=12) (N:=some 94) (v:=?_) (a':=?_) (on 15 13) rfl rfl (bV HT_.out (by kernel_rfl)) (fun _ _ _ h=>h) (Or.inl ⟨by rfl,?_⟩) ?_ ?_;rotate_left;(intro w';go_simp;with_reducible rfl);rotate_left;(simp only [Act.put,List.setIfInBounds_toArray,List.set_cons_zero,List.set_cons_succ,bf,bD];rfl)
           refine dA (i:=13) (N:=some 95) (v:=?_) (a':=?_) (on 15 14) rfl rfl (bV HT_.out (by kernel_rfl)) (fun _ _ _ h=>h) (Or.inl ⟨by rfl,?_⟩) ?_ ?_;rotate_left;(intro w';go_simp;with_reducible rfl);rotate_left;(simp only [Act.put,List.setIfInBounds_toArray,List.set_cons_zero,List.set_cons_succ,bf,bD];rfl)
           refine zL (i:=14) (N:=none) (on 15 15) rfl rfl (iM HT_.out (by kernel_rfl)) (by decide) (fun K hK=>?_)
           refine tZ (w1:=?_) (by rfl) rfl ?_ ?_
           rotate_left
           ·go_simp
            rfl
           refine hK.out _ _ ?_
           clear hK K
           refine rq (lQ HT_.out (by kernel_rfl)) ?_
           obtain ⟨w9,hw9⟩:∃ w9,w8.setCell ⟨g,i*4+3,none⟩ (.slice (some ⟨g8,0,none⟩) (x.1+1) n8)=w9:=⟨_,rfl⟩
           rw [hw9] at hS8 ⊢
           have hR9:=hR.out.kid (cs:=[.int .i64 v.f0,.string v.f1,.slice V2 v.f2.length n2,.slice V3 v.f3.length n3]) (pX (f:=fV ts) (k:=k) (fun _=>rfl) hi) hxx.out hKv.out rfl
           rw [hvk.out,hi'.out] at hR9
           replace hR9:=ae.mk hR9
           clear hw9 hs3c hc3 hq0 hq1 hq2 hq3 f8 p8 hHeld HT_ HW_ hv8 hL8 hB8 ho hb hg hat hSz
           go_wp2
           go_roundg gi
           case measure=>omega
           case rel=>exact ⟨i+1,_,_,_,by congr 1,⟨by have:=hiq.out;omega⟩,⟨hS8.out.Gm⟩,hR9⟩
          ·obtain ⟨wz,hwz⟩:∃ wz,(w7.alloc (.cells #[.bool true] 4)).drew=wz:=⟨_,rfl⟩
           have hSz:=(hS7.out.alloc (.cells #[.bool true] 4)).drew
           rw [hwz] at hSz ⊢
           have hVz:=ae.mk (hSz.zG hxx.out ha'.out)
           obtain ⟨fl2,fl3⟩:=su _ _ _ ha'.out
           have hs3c:wz.cell? ⟨g,i*4+3,none⟩=some (.slice Va x.1 vc):=by
            have:=hSz.row3.cells (g:=g) rfl (i*4+3) _ fl3
            rwa [mY] at this
           have hc3:wz.cell? ⟨w.heap.size+1+1,3,none⟩=some (.slice (some ⟨g,0,none⟩) av'.length cap):=(ah hSz.k2 3).trans rfl
           have hq0:=hSz.lg 0 rfl
           have hq1:=hSz.lg 1 rfl
           have hq2:=hSz.lg 2 rfl
           have hq3:=hSz.lg 3 rfl
           have hf3:=ae.mk fl3
           have p8:((i:Int) < (av'.length:Int))=True:=eq_true (by have:=hal'.out;omega)
           have hxn:x.1≤65536:=by rw [hxl.out.1];unfold fV;rw [List.length_map,List.length_take];omega
           replace hxn:=ae.mk hxn
           replace hSz:=ae.mk hSz
           clear hwz fl2 fl3
           go_wp2_with (fail)
           refine nT (n:=13) (S:=fun w'=>w'.cell? ⟨w.heap.size+1+1,3,none⟩=some (.slice (some ⟨g,0,none⟩) av'.length cap)∧w'.cell? ⟨g,i*4+3,none⟩=some (.slice Va x.1 vc)∧w'.cell? ⟨vb,0,none⟩=some (.int .i64 v.f0)∧w'.cell? ⟨vb,1,none⟩=some (.string v.f1)∧w'.cell? ⟨vb,2,none⟩=some (.slice V2 v.f2.length n2)∧w'.cell? ⟨vb,3,none⟩=some (.slice V3 v.f3.length n3)) (ds:=[12]) (on 13 0) (by kernel_rfl) rfl rfl ⟨hc3,hs3c,hq0,hq1,hq2,hq3⟩ (fun hHeld=>?_);refine jS FO DI (fun HT_ HW_=>?_)
           refine dA (i:=0) (N:=some 69) (v:=?_) (a':=?_) (on 13 1) rfl rfl (bV HT_.out (by kernel_rfl)) (fun _ _ _ h=>h) (Or.inl ⟨by rfl,?_⟩) ?_ ?_;rotate_left;(intro w';go_simp;with_reducible rfl);rotate_left;(simp only [Act.put,List.setIfInBounds_toArray,List.set_cons_zero,List.set_cons_succ,bf,bD];rfl)
           refine iL (i:=1) (N:=some 70) (v:=?_) (a':=?_) (on 13 2) rfl rfl (eH HT_.out HW_.out (by kernel_rfl)) (fun _ _ _ h=>h) (Or.inl ⟨by rfl,?_⟩) hHeld ?_ ?_;rotate_left;(rintro w' ⟨s0,s1,s2,s3,s4,s5⟩;go_simp;with_reducible rfl);rotate_left;(simp only [Act.put,List.setIfInBounds_toArray,List.set_cons_zero,List.set_cons_succ,bf,bD];rfl)
           refine dA (i:=2) (N:=some 71) (v:=?_) (a':=?_) (on 13 3) rfl rfl (bV HT_.out (by kernel_rfl)) (fun _ _ _ h=>h) (Or.inl ⟨by rfl,?_⟩) ?_ ?_;rotate_left;(intro w';go_simp;with_reducible rfl);rotate_left;(simp only [Act.put,List.setIfInBounds_toArray,List.set_cons_zero,List.set_cons_succ,bf,bD];rfl)
           refine dA (i:=3) (N:=some 72) (v:=?_) (a':=?_) (on 13 4) rfl rfl (bV HT_.out (by kernel_rfl)) (fun _ _ _ h=>h) (Or.inl ⟨by rfl,?_⟩) ?_ ?_;rotate_left;(intro w';go_simp;with_reducible rfl);rotate_left;(simp only [Act.put,List.setIfInBounds_toArray,List.set_cons_zero,List.set_cons_succ,bf,bD];rfl)
           refine dA (i:=4) (N:=some 73) (v:=?_) (a':=?_) (on 13 5) rfl rfl (bV HT_.out (by kernel_rfl)) (fun _ _ _ h=>h) (Or.inl ⟨by rfl,?_⟩) ?_ ?_;rotate_left;(intro w';go_simp;with_reducible rfl);rotate_left;(simp only [Act.put,List.setIfInBounds_toArray,List.set_cons_zero,List.set_cons_succ,bf,bD];rfl)
           refine iL (i:=5) (N:=some 74) (v:=?_) (a':=?_) (on 13 6) rfl rfl (eH HT_.out HW_.out (by kernel_rfl)) (fun _ _ _ h=>h) (Or.inl ⟨by rfl,?_⟩) hHeld ?_ ?_;rotate_left;(rintro w' ⟨s0,s1,s2,s3,s4,s5⟩;go_simp;with_reducible rfl);rotate_left;(simp only [Act.put,List.setIfInBounds_toArray,List.set_cons_zero,List.set_cons_succ,bf,bD];rfl)
           refine iL (i:=6) (N:=some 75) (v:=?_) (a':=?_) (on 13 7) rfl rfl (eH HT_.out HW_.out (by kernel_rfl)) (fun _ _ _ h=>h) (Or.inl ⟨by rfl,?_⟩) hHeld ?_ ?_;rotate_left;(rintro w' ⟨s0,s1,s2,s3,s4,s5⟩;go_simp;with_reducible rfl);rotate_left;(simp only [Act.put,List.setIfInBounds_toArray,List.set_cons_zero,List.set_cons_succ,bf,bD];rfl)
           refine dA (i:=7) (N:=some 76) (v:=?_) (a':=?_) (on 13 8) rfl rfl (bV HT_.out (by kernel_rfl)) (fun _ _ _ h=>h) (Or.inl ⟨by rfl,?_⟩) ?_ ?_;rotate_left;(intro w';go_simp;with_reducible rfl);rotate_left;(simp only [Act.put,List.setIfInBounds_toArray,List.set_cons_zero,List.set_cons_succ,bf,bD];rfl)
           refine nI (i:=8) (N:=some 77) (on 13 9) rfl rfl (iM HT_.out (by kernel_rfl)) (by decide) (fun K hK=>?_)
           refine yP (v:=.slice (some ⟨wz.drew.heap.size,0,none⟩) 1 1) (w1:=wz.drew.alloc (.cells #[.int .i64 0,.string ⟨#[]⟩,.slice none 0 0,.slice none 0 0] 25)) (by rfl) rfl ?_ ?_
           ·go_simp
           refine hK.out _ _ ⟨(ah (hSz.out.drew.alloc (.cells #[.int .i64 0,.string ⟨#[]⟩,.slice none 0 0,.slice none 0 0] 25)).k2 3).trans rfl,GM hs3c _,(hSz.out.drew.alloc (.cells #[.int .i64 0,.string ⟨#[]⟩,.slice none 0 0,.slice none 0 0] 25)).lg 0 rfl,(hSz.out.drew.alloc (.cells #[.int .i64 0,.string ⟨#[]⟩,.slice none 0 0,.slice none 0 0] 25)).lg 1 rfl,(hSz.out.drew.alloc (.cells #[.int .i64 0,.string ⟨#[]⟩,.slice none 0 0,.slice none 0 0] 25)).lg 2 rfl,(hSz.out.drew.alloc (.cells #[.int .i64 0,.string ⟨#[]⟩,.slice none 0 0,.slice none 0 0] 25)).lg 3 rfl⟩ (fun hHeld=>?_)
           clear hK K
           refine lD (a':=?_) ?_ ?_
           rotate_left
           ·show Act.put _ (some 77) _=_
            simp only [Act.put,List.setIfInBounds_toArray,List.set_cons_zero,List.set_cons_succ,bf,bD]
            rfl
           refine nI (i:=9) (N:=some 78) (on 13 10) rfl rfl (iM HT_.out (by kernel_rfl)) (by decide) (fun K hK=>?_)
           refine jC (w0:=wz) (W:=wz.drew) (w.heap.size+3) (by rfl) (.tmp 74) (.tmp 77) 23 25 _ 4 72 rfl Tryz.underlying23 info25 rfl (by decide) (by decide) (.slice Va x.1 vc) x.1 x.2 [.int .i64 0,.string ⟨#[]⟩,.slice none 0 0,.slice none 0 0] (by simp [Act.eval,Act.put]) (by simp [Act.eval,Act.put]) rfl ?a1 ?aO ?aB ?aS ?aL ?_
           case a1=>intro u hu;simp only [List.mem_cons,List.not_mem_nil,or_false] at hu;rcases hu with rfl | rfl | rfl | rfl <;> rfl
           case aO=>exact hVz.out
           case aB=>exact Below.mono (dm (Below.refl _ _)) hSz.out.size
           case aS=>exact hSz.out.size
           case aL=>have:=hxn.out;omega
           intro v1 w8 ho hb hg hat
           obtain ⟨g8,n8,e8,hg8,_⟩:=pq ho (Nat.succ_pos _)
           subst e8
           have hB8:=hSz.out.bel.trans (Below.mono hb (by omega))
           have hS8:=hSz.out.drew.kid (av:=av') (i:=i) (v1:=.slice (some ⟨g8,0,none⟩) (x.1+1) n8) (x:=x) hxx.out ha'.out ho hB8 hg hat
           have hL8:=hSz.out.drew.stand hVz.out hg (.inr (hSz.out.gne ha'.out)) hf3.out
           have f8:=hL8.2.2.2
           have hv8:=fun j x=>hSz.out.drew.Gt ha'.out hg j (x:=x)
           replace hS8:=ae.mk hS8
           replace hv8:=ae.mk hv8
           refine hK.out _ _ ⟨(ah hL8.2.1 3).trans rfl,hL8.2.2.1,hv8.out 0 _ rfl,hv8.out 1 _ rfl,hv8.out 2 _ rfl,hv8.out 3 _ rfl⟩ (fun hHeld=>?_)
           clear hK K
           refine lD (a':=?_) ?_ ?_
           rotate_left
           ·show Act.put _ (some 78) _=_
            simp only [Act.put,List.setIfInBounds_toArray,List.set_cons_zero,List.set_cons_succ,bf,bD]
            rfl
           refine dA (i:=10) (N:=some 79) (v:=?_) (a':=?_) (on 13 11) rfl rfl (bV HT_.out (by kernel_rfl)) (fun _ _ _ h=>h) (Or.inl ⟨by rfl,?_⟩) ?_ ?_;rotate_left;(intro w';go_simp;with_reducible rfl);rotate_left;(simp only [Act.put,List.setIfInBounds_toArray,List.set_cons_zero,List.set_cons_succ,bf,bD];rfl)
           refine dA (i:=11) (N:=some 80) (v:=?_) (a':=?_) (on 13 12) rfl rfl (bV HT_.out (by kernel_rfl)) (fun _ _ _ h=>h) (Or.inl ⟨by rfl,?_⟩) ?_ ?_;rotate_left;(intro w';go_simp;with_reducible rfl);rotate_left;(simp only [Act.put,List.setIfInBounds_toArray,List.set_cons_zero,List.set_cons_succ,bf,bD];rfl)
           refine zL (i:=12) (N:=none) (on 13 13) rfl rfl (iM HT_.out (by kernel_rfl)) (by decide) (fun K hK=>?_)
           refine tZ (w1:=?_) (by rfl) rfl ?_ ?_
           rotate_left
           ·go_simp
            rfl
           refine hK.out _ _ ?_
           clear hK K
           refine rq (lQ HT_.out (by kernel_rfl)) ?_
           obtain ⟨w9,hw9⟩:∃ w9,w8.setCell ⟨g,i*4+3,none⟩ (.slice (some ⟨g8,0,none⟩) (x.1+1) n8)=w9:=⟨_,rfl⟩
           rw [hw9] at hS8 ⊢
           have hR9:=hR.out.kid (cs:=[.int .i64 v.f0,.string v.f1,.slice V2 v.f2.length n2,.slice V3 v.f3.length n3]) (pX (f:=fV ts) (k:=k) (fun _=>rfl) hi) hxx.out hKv.out rfl
           rw [hvk.out,hi'.out] at hR9
           replace hR9:=ae.mk hR9
           clear hw9 hs3c hc3 hq0 hq1 hq2 hq3 f8 p8 hHeld HT_ HW_ hv8 hL8 hB8 ho hb hg hat hSz
           have hil:i < xs.length:=(List.getElem?_eq_some_iff.1 hxx.out).1
           have hx9:(xs.set i (x.1+1,x.2 ++ [.int .i64 0,.string ⟨#[]⟩,.slice none 0 0,.slice none 0 0]))[i]?=some (x.1+1,x.2 ++ [.int .i64 0,.string ⟨#[]⟩,.slice none 0 0,.slice none 0 0]):=by rw [List.getElem?_set_self hil]
           have ha9:(av'.set i (.slice A6 ((fK keys k i).length+1) n6,.slice (some ⟨g8,0,none⟩) (x.1+1) n8))[i]?=some (.slice A6 ((fK keys k i).length+1) n6,.slice (some ⟨g8,0,none⟩) (x.1+1) n8):=by rw [List.getElem?_set_self (by rw [hal'.out];exact hia)]
           have hV9:=hS8.out.zG hx9 ha9
           have hlx:x.2.length=x.1*4:=hVz.out.1
           have h10:=hS8.out.IE hx9 ha9 rfl hlx (.int .i64 v.f0) (.string v.f1) (.slice V2 v.f2.length n2) (.slice V3 v.f3.length n3)
           have y0:=hV9.cells (g:=g8) rfl (x.1*4) (.int .i64 0) (by rw [List.getElem?_append_right (by omega),hlx,Nat.sub_self];rfl)
           have y1:=hV9.cells (g:=g8) rfl (x.1*4+1) (.string ⟨#[]⟩) (by rw [List.getElem?_append_right (by omega),hlx,show x.1*4+1 - x.1*4=1 by omega];rfl)
           have y2:=hV9.cells (g:=g8) rfl (x.1*4+2) (.slice none 0 0) (by rw [List.getElem?_append_right (by omega),hlx,show x.1*4+2 - x.1*4=2 by omega];rfl)
           have y3:=hV9.cells (g:=g8) rfl (x.1*4+3) (.slice none 0 0) (by rw [List.getElem?_append_right (by omega),hlx,show x.1*4+3 - x.1*4=3 by omega];rfl)
           rw [mY] at y0 y1 y2 y3
           have d0:=hV9.frozenAt (x.1*4)
           have d1:=hV9.frozenAt (x.1*4+1)
           have d2:=hV9.frozenAt (x.1*4+2)
           have d3:=hV9.frozenAt (x.1*4+3)
           have p9:((x.1:Int) < ((x.1+1:Nat):Int))=True:=eq_true (by omega)
           have p10:(0≤(x.1:Int))=True:=eq_true (by omega)
           rw [List.set_set] at h10
           replace h10:=ae.mk h10
           replace hV9:=ae.mk hV9
           replace hx9:=ae.mk hx9
           replace ha9:=ae.mk ha9
           clear hlx
           go_wp2_with (fail)
           go_roundg gi
           case measure=>omega
           case rel=>exact ⟨i+1,_,_,_,by congr 1,⟨by have:=hiq.out;omega⟩,⟨h10.out.Gm⟩,hR9⟩
     ·have e6:((t.f3.length:Int) != (m:Int))=true:=bne_iff_ne.mpr (by omega)
      replace hm5:=ae.mk hm5
      go_quiet (fail)
      have h1:=hS.out.below (ag (Below.refl _ _) nq)
      clear r3 a3 b0 b3
      obtain ⟨wn,hwn⟩:∃ wn,wk.drewN nq=wn:=⟨_,rfl⟩
      rw [hwn] at h1 ⊢
      replace h1:=ae.mk h1
      have z0:_=some (Value.int .i64 0):=(ah h1.out.k1 0).trans rfl
      have z1:_=some (Value.string ⟨#[]⟩):=(ah h1.out.k1 1).trans rfl
      have z2:_=some (Value.slice none 0 0):=(ah h1.out.k1 2).trans rfl
      have z3:_=some (Value.slice none 0 0):=(ah h1.out.k1 3).trans rfl
      have z4:_=some (Value.bool false):=(ah h1.out.k1 4).trans rfl
      have z5:_=some (Value.bool false):=(ah h1.out.k1 5).trans rfl
      have z6:_=some (Value.bool false):=(ah h1.out.k1 6).trans rfl
      have y0:=ak h1.out.k1 0
      have y1:=ak h1.out.k1 1
      have y2:=ak h1.out.k1 2
      have y3:=ak h1.out.k1 3
      have y4:=ak h1.out.k1 4
      have y5:=ak h1.out.k1 5
      have y6:=ak h1.out.k1 6
      clear hwn
      go_wp2
      have h8:=(((((((h1.out.lX (z':=#[.int .i64 0,.string ⟨#[]⟩,.slice none 0 0,.slice none 0 0,.bool false,.bool false,.bool false]) 0 (.int .i64 0) rfl).lX (z':=#[.int .i64 0,.string ⟨#[]⟩,.slice none 0 0,.slice none 0 0,.bool false,.bool false,.bool false]) 1 (.string ⟨#[]⟩) rfl).lX (z':=#[.int .i64 0,.string ⟨#[]⟩,.slice none 0 0,.slice none 0 0,.bool false,.bool false,.bool false]) 2 (.slice none 0 0) rfl).lX (z':=#[.int .i64 0,.string ⟨#[]⟩,.slice none 0 0,.slice none 0 0,.bool false,.bool false,.bool false]) 3 (.slice none 0 0) rfl).lX (z':=#[.int .i64 0,.string ⟨#[]⟩,.slice none 0 0,.slice none 0 0,.bool false,.bool false,.bool false]) 4 (.bool false) rfl).lX (z':=#[.int .i64 0,.string ⟨#[]⟩,.slice none 0 0,.slice none 0 0,.bool false,.bool true,.bool false]) 5 (.bool true) rfl).lX (z':=#[.int .i64 0,.string ⟨#[]⟩,.slice none 0 0,.slice none 0 0,.bool false,.bool true,.bool false]) 6 (.bool false) rfl)
      refine bodyPost_ret (results_cell_row rfl _ _ (w.heap.size+1) 47 #[.int .i64 0,.string ⟨#[]⟩,.slice none 0 0,.slice none 0 0,.bool false,.bool true,.bool false] (0,0) _ rfl h8.k1 Tryz.underlying47 rfl (by kernel_rfl)) rfl ?_
      exact ⟨h8.bel,.inl rfl⟩
    ·have e5:(t.f0 != 5)=true:=bne_iff_ne.mpr h5
     replace h5:=ae.mk h5
     go_quiet (fail)
     have h1:=hS.out.below (ag (Below.refl _ _) nq)
     clear r3 a3 b0 b3
     obtain ⟨wn,hwn⟩:∃ wn,wk.drewN nq=wn:=⟨_,rfl⟩
     rw [hwn] at h1 ⊢
     replace h1:=ae.mk h1
     have z0:_=some (Value.int .i64 0):=(ah h1.out.k1 0).trans rfl
     have z1:_=some (Value.string ⟨#[]⟩):=(ah h1.out.k1 1).trans rfl
     have z2:_=some (Value.slice none 0 0):=(ah h1.out.k1 2).trans rfl
     have z3:_=some (Value.slice none 0 0):=(ah h1.out.k1 3).trans rfl
     have z4:_=some (Value.bool false):=(ah h1.out.k1 4).trans rfl
     have z5:_=some (Value.bool false):=(ah h1.out.k1 5).trans rfl
     have z6:_=some (Value.bool false):=(ah h1.out.k1 6).trans rfl
     have y0:=ak h1.out.k1 0
     have y1:=ak h1.out.k1 1
     have y2:=ak h1.out.k1 2
     have y3:=ak h1.out.k1 3
     have y4:=ak h1.out.k1 4
     have y5:=ak h1.out.k1 5
     have y6:=ak h1.out.k1 6
     clear hwn
     go_wp2
     have h8:=(((((((h1.out.lX (z':=#[.int .i64 0,.string ⟨#[]⟩,.slice none 0 0,.slice none 0 0,.bool false,.bool false,.bool false]) 0 (.int .i64 0) rfl).lX (z':=#[.int .i64 0,.string ⟨#[]⟩,.slice none 0 0,.slice none 0 0,.bool false,.bool false,.bool false]) 1 (.string ⟨#[]⟩) rfl).lX (z':=#[.int .i64 0,.string ⟨#[]⟩,.slice none 0 0,.slice none 0 0,.bool false,.bool false,.bool false]) 2 (.slice none 0 0) rfl).lX (z':=#[.int .i64 0,.string ⟨#[]⟩,.slice none 0 0,.slice none 0 0,.bool false,.bool false,.bool false]) 3 (.slice none 0 0) rfl).lX (z':=#[.int .i64 0,.string ⟨#[]⟩,.slice none 0 0,.slice none 0 0,.bool false,.bool false,.bool false]) 4 (.bool false) rfl).lX (z':=#[.int .i64 0,.string ⟨#[]⟩,.slice none 0 0,.slice none 0 0,.bool false,.bool true,.bool false]) 5 (.bool true) rfl).lX (z':=#[.int .i64 0,.string ⟨#[]⟩,.slice none 0 0,.slice none 0 0,.bool false,.bool true,.bool false]) 6 (.bool false) rfl)
     refine bodyPost_ret (results_cell_row rfl _ _ (w.heap.size+1) 47 #[.int .i64 0,.string ⟨#[]⟩,.slice none 0 0,.slice none 0 0,.bool false,.bool true,.bool false] (0,0) _ rfl h8.k1 Tryz.underlying47 rfl (by kernel_rfl)) rfl ?_
     exact ⟨h8.bel,.inl rfl⟩
end Go.Proofs.YtpgfjbimodnkeaaGreatDoor.Q
namespace Go.Proofs.YtpgfjbimodnkeaaGreatDoor.Hec
open Go Go.RowKit Go.Proofs.YtpgfjbimodnkeaaGreatDoorW.PrintWords Go.Proofs.YtpgfjbimodnkeaaGreatDoorW.PrintLast Go.Proofs.YtpgfjbimodnkeaaGreatDoorW.PrintMore Go.Proofs.YtpgfjbimodnkeaaGreatDoor.Scan Go.Proofs.YtpgfjbimodnkeaaGreatDoor.Q Go.Proofs.YtpgfjbimodnkeaaGreatDoor.Dec
theorem xN (w:World) (s:ByteArray) (R:ByteArray→Prop) (h:Calls Tryz.prog 65 #[.string s,.string ⟨#[]⟩] w fun e w'=>∃ out,R out∧e = .returned (.string out)∧Below w.heap.size w w') :
 Calls Tryz.prog 16 #[.string s] w fun e w'=>∃ out,R out∧e = .returned (.string out)∧Below w.heap.size w w':=by
 have h39:Calls Tryz.prog 39 #[.string s] w fun e w'=>∃ out,R out∧e = .returned (.string out)∧Below w.heap.size w w':=by
  replace h:=ae.mk h
  go_enter Tryz.func39,Tryz.ntmps39
  go_wp2_with (fail)
  with_reducible refine h.out.mono ?_
  rintro e w1 ⟨out,hR,rfl,hB1⟩
  replace hB1:=ae.mk hB1
  replace hR:=ae.mk hR
  go_wp2
  go_ret
  exact ⟨out,hR.out,rfl,hB1.out⟩
 clear h
 replace h39:=ae.mk h39
 go_enter Tryz.func16,Tryz.ntmps16
 go_wp2_with (fail)
 with_reducible refine h39.out.mono ?_
 rintro e w1 ⟨out,hR,rfl,hB1⟩
 replace hB1:=ae.mk hB1
 replace hR:=ae.mk hR
 go_wp2
 go_ret
 exact ⟨out,hR.out,rfl,hB1.out⟩
theorem tN.five {s:ByteArray}:∀ {ks:List S32} {ts:List S25},tN s ks ts→∀ p ∈ ks,p.f0=5
 | [],[],_,p,h=>by cases h
 | p :: ks,t :: ts,h,q,hq=>by
   rcases List.mem_cons.1 hq with rfl | hq
   ·exact h.1.1
   ·exact tN.five h.2 q hq
 | [],_ :: _,h,_,_=>h.elim
 | _ :: _,[],h,_,_=>h.elim
theorem uH {s:ByteArray} (hs:s.size≤65536):∀ {ks:List S32} {ts:List S25},(∀ p ∈ ks,∃ b m:Nat,p.f1=b∧p.f2=m∧J s .val b m p.f0 p.f3 p.f4∧Prd s b)→fP s ks ts→∀ t ∈ ts,t.f0=5→t.f3.length≤65536
 | [],[],_,_,t,h,_=>by cases h
 | p :: ks,t :: ts,h,ht,u,hu,h5=>by
   rcases List.mem_cons.1 hu with rfl | hu
   ·have hK:=oH hs (ks:=[p]) (ts:=[u]) (fun q hq=>h q (by rw [List.mem_singleton.1 hq];exact List.mem_cons_self ..)) ⟨ht.1,trivial⟩ (fun y hy=>by rw [List.mem_singleton.1 hy];exact h5)
    obtain ⟨b,m,_,_,hJ,_⟩:=h p (List.mem_cons_self ..)
    have:=hJ.lens
    have:=hJ.bound
    have:=hK.1.2.1
    omega
   ·exact uH hs (fun q hq=>h q (List.mem_cons_of_mem _ hq)) ht.2 u hu h5
 | [],_ :: _,_,h,_,_,_=>h.elim
 | _ :: _,[],_,h,_,_,_=>h.elim
theorem yS (w:World) (B:Nat) (s:ByteArray) (hs:s.size≤65536) (ns:List S44) (ks:List S32) (hJ:J s .val 0 s.size 6 ns ks) (hP:Prd s 0) (hT:Tabs B w) (keys:List ByteArray) (hn:fB s ns keys) (ts:List S25) (ht:fP s ks ts) (m:Nat) (hg:∀ t ∈ ts,t.f0=5∧t.f3.length=m) (hm0:ts=[]→m=0) :
 Calls Tryz.prog 16 #[.string s] w fun e w'=>∃ out,Evt (fun k=>fO.f k out) (5,⟨#[]⟩,[],wC keys ts m,true)∧e = .returned (.string out)∧Below w.heap.size w w':=by
 have hb:=hJ.bound
 have h0:0 < s.size:=by omega
 have h123:=Eu hJ
 have hl:=hJ.lens
 have hnk:=J.same hJ (.inr ⟨rfl,rfl⟩)
 have hkid:=qA (lb hs) hJ hP
 have hK:=oH hs (fun p hp=>by obtain ⟨b,m,g1,g2,_,_,g3,g4⟩:=hkid p hp;exact ⟨b,m,g1,g2,g3,g4⟩) ht (fun t h=>(hg t h).1)
 refine xN w s _ ((wQ B w s ⟨#[]⟩ ns ks (ks.map fun p=>elems s p.f4) hs hJ hP hT (by omega) hnk (by rw [List.length_map]) (fun i p ys hp hy=>?_) (uY hs hJ hP hn ht) (fun ys hy y hyy=>?_) (fun W=>yV W s h0 (.inl h123)) (fun W=>yF s h0 true (by rw [h123];rfl) ⟨#[]⟩ 0 0 W) (fun args W=>rP (P:=Tryz.prog) (f:=89) Tryz.func89 (by kernel_rfl) rfl args W) (fun args W=>rP (P:=Tryz.prog) (f:=91) Tryz.func91 (by kernel_rfl) rfl args W)).mono ?_)
 ·rw [List.getElem?_map,hp] at hy
  obtain rfl:=Option.some.inj hy
  have hmem:=List.mem_of_getElem? hp
  obtain ⟨b,x,g1,g2,_,_,g3,g4⟩:=hkid p hmem
  have h5:=hK.five p hmem
  rw [h5] at g3
  exact BH hs g3 g4 h5 g1 g2
 ·obtain ⟨p,_,rfl⟩:=List.mem_map.1 hy
  obtain ⟨q,_,rfl⟩:=List.mem_map.1 hyy
  rw [ByteArray.size_extract]
  omega
 ·rintro e w' ⟨ps,h1,h2,rfl,hB⟩
  exact ⟨_,yz hs hJ hP hn ht (fun t h=>(hg t h).1) (fun t h=>(hg t h).2) hm0 h1 h2,rfl,hB⟩
def l4T:Bool × List (List Nat × List Nat):=(true,[([],[]),([0],[0]),([1],[1]),([2],[2]),([3,2,2],[2,3]),([2],[2]),([5,2],[2,5]),([4,6,4,2],[2,4,6]),([2,7],[2,7]),([8,7,0,1,2,3,4,5,6,7,8],[8])])
def l4B:List Nat:=[0,1,3,7,15,7,39,127,255,511]
theorem H9:kT .any (opsOf Tryz.f4 7)=l4T:=by kernel_rfl
theorem FZ:kK l4T.2 l4B=true:=by kernel_rfl
theorem Ff (w:World) (s:ByteArray) (h:2147483647 < s.size) :
 Calls Tryz.prog 4 #[.string s] w fun e w'=>e = .returned (.bool true)∧Below w.heap.size w w':=by
 have h1:decide (2147483647 < (s.size:Int))=true:=decide_eq_true (by omega)
 have h2:decide (2147483647 < s.size)=true:=decide_eq_true (by omega)
 go_enter Tryz.func4,Tryz.ntmps4
 go_wp2
 go_ret
 exact ⟨rfl,Below.refl _ _⟩
theorem GN (w:World) (s:ByteArray) (h:s.size≤2147483647) (kd:Int) (txt:ByteArray) (keys:List ByteArray) (ts:List S25) (b:Bool) (hb:wB s kd txt keys ts b) (hk:b=true→kd≠6) :
 Calls Tryz.prog 4 #[.string s] w fun e w'=>e = .returned (.bool true)∧Below w.heap.size w w':=by
 have h1:decide (2147483647 < (s.size:Int))=false:=decide_eq_false (by omega)
 have h2:decide (2147483647 < s.size)=false:=decide_eq_false (by omega)
 have hbc:=fun W=>hb W
 unfold wB at hb
 clear hb
 have hk2:=ae.mk hk
 clear hk
 go_enter Tryz.func4,Tryz.ntmps4
 go_wp2_with (fail)
 with_reducible refine (hbc _).mono ?_
 rintro e w1 ⟨A2,c2,A3,c3,rfl,-,-,hB1⟩
 replace hB1:=ae.mk hB1
 clear hbc
 cases b with
 | false =>
   go_wp2
   go_ret
   exact ⟨rfl,ai hB1.out _⟩
 | true =>
   have h6:(kd != 6)=true:=bne_iff_ne.mpr (hk2.out rfl)
   go_wp2
   go_ret
   exact ⟨rfl,ai hB1.out _⟩
theorem EP (w:World) (B:Nat) (hT:Tabs B w) (s:ByteArray) (h:s.size≤2147483647) (txt:ByteArray) (keys:List ByteArray) (ts:List S25) (hb:wB s 6 txt keys ts true) (hk:keys.length=ts.length) (hl:ts.length≤65536) (hm:∀ t ∈ ts,t.f0=5→t.f3.length≤65536)
 (hdoor:∀ m:Nat,(∀ t ∈ ts,t.f0=5∧t.f3.length=m)→(ts=[]→m=0)→∀ W,Tabs B W→Calls Tryz.prog 16 #[.string s] W fun e w'=>∃ out,Evt (fun k=>fO.f k out) (5,⟨#[]⟩,[],wC keys ts m,true)∧e = .returned (.string out)∧Below W.heap.size W w') :
 Calls Tryz.prog 4 #[.string s] w fun e w'=>e = .returned (.bool true)∧Below w.heap.size w w':=by
 have h1:decide (2147483647 < (s.size:Int))=false:=decide_eq_false (by omega)
 have h2:decide (2147483647 < s.size)=false:=decide_eq_false (by omega)
 have hbc:=fun W=>hb W
 have hgr:=fun A2 c2 A3 c3 W g2 g3=>xY txt A2 c2 keys A3 c3 ts W g2 g3 hl hm hk
 clear hb
 replace hT:=ae.mk hT
 replace hm:=ae.mk hm
 replace hdoor:=ae.mk hdoor
 replace hk:=ae.mk hk
 go_enter Tryz.func4,Tryz.ntmps4
 go_wp2_with (fail)
 with_reducible refine (hbc _).mono ?_
 rintro e w1 ⟨A2,c2,A3,c3,rfl,g2,g3,hB1⟩
 have kn:=dP w1 (.cells #[.int .i64 6,.string txt,.slice A2 keys.length c2,.slice A3 ts.length c3] 25)
 have hb1:Below w.heap.size w (w1.alloc (.cells #[.int .i64 6,.string txt,.slice A2 keys.length c2,.slice A3 ts.length c3] 25)):=ai hB1 _
 have hb11:Below w1.heap.size w1 (w1.alloc (.cells #[.int .i64 6,.string txt,.slice A2 keys.length c2,.slice A3 ts.length c3] 25)):=ai (Below.refl _ _) _
 have hg2:=hgr A2 c2 A3 c3 _ (Kd.fF g2 hb11) (Kd.fF g3 hb11)
 replace hB1:=ae.mk hB1
 replace kn:=ae.mk kn
 replace hb1:=ae.mk hb1
 clear hbc hgr g2 g3 hb11
 go_wp2_with (fail)
 with_reducible refine hg2.mono ?_
 rintro e w2 ⟨hB2,rfl | ⟨m,X,c,hgd,hm0,rfl,hC⟩⟩
 ·replace hB2:=ae.mk hB2
  clear hg2
  go_wp2_with (fail)
  go_quiet (fail)
  go_wp2
  go_ret
  exact ⟨rfl,(ai (dB hb1.out hB2.out) _).trans (ag (Below.refl _ _) _)⟩
 ·replace hC:=ae.mk hC
  replace hB2:=ae.mk hB2
  replace hdoor:=hdoor.out m hgd hm0
  clear hg2
  go_wp2_with (fail)
  obtain ⟨wa,hwa⟩:∃ wa,w2.alloc (.cells #[.int .i64 5,.string ⟨#[]⟩,.slice none 0 0,.slice X m c,.bool true,.bool false,.bool false] 47)=wa:=⟨_,rfl⟩
  have ka:wa.heap[w2.heap.size]?=some (.cells #[.int .i64 5,.string ⟨#[]⟩,.slice none 0 0,.slice X m c,.bool true,.bool false,.bool false] 47 (0,0)):=by rw [← hwa];exact dP _ _
  have hBa:Below w2.heap.size w2 wa:=by rw [← hwa];exact ai (Below.refl _ _) _
  have hbw:Below w.heap.size w wa:=dB (dB hb1.out hB2.out) hBa
  rw [hwa]
  replace hC:=ae.mk (Kd.fF (Kd.fF hC.out hBa) (dm (Below.refl _ _)))
  have hTa:=ae.mk (hT.out.below (Below.mono (hbw.trans (dm (Below.refl _ _))) hT.out.size))
  replace hbw:=ae.mk hbw
  obtain ⟨ga,hga⟩:∃ ga,w2.heap.size=ga:=⟨_,rfl⟩
  rw [hga] at ka ⊢
  have hrd2:∀ (W:World) (out:ByteArray) (k:Nat),fO.f k out=some (5,⟨#[]⟩,[],wC keys ts m,true)→k25.C W X m (wC keys ts m)→Calls Tryz.prog 15 #[.string out,.agg #[.int .i64 5,.string ⟨#[]⟩,.slice none 0 0,.slice X m c]] W fun e w'=>e = .returned (.bool true)∧Below W.heap.size W w':=fun W out k hk hC=>by
   have hlen:(wC keys ts m).length=m:=by simp [wC]
   have h9:=xy W out (⟨5,⟨#[]⟩,[],wC keys ts m⟩:S25) k hk none 0 X c ⟨rfl,by simp,fun h=>absurd h (Nat.lt_irrefl 0)⟩ (by rw [hlen];exact hC)
   rw [hlen] at h9
   exact h9
  clear hwa hBa hga hm0 hgd
  go_wp2_with (fail)
  refine nT (n:=10) (S:=fun w'=>w'.heap[ga]?=some (.cells #[.int .i64 5,.string ⟨#[]⟩,.slice none 0 0,.slice X m c,.bool true,.bool false,.bool false] 47 (0,0))) (ds:=[]) #[false,false,false,false,false,false,false,false,false,false] (by kernel_rfl) rfl (by kernel_rfl) ka (fun hHeld=>?_);refine jS H9 FZ (fun HT_ HW_=>?_)
  refine dA (i:=0) (N:=some 23) (v:=?_) (a':=?_) #[true,false,false,false,false,false,false,false,false,false] rfl rfl (bV HT_.out (by kernel_rfl)) (fun _ _ _ h=>h) (Or.inl ⟨by rfl,?_⟩) ?_ ?_;rotate_left;(intro w';go_simp;with_reducible rfl);rotate_left;(simp only [Act.put,List.setIfInBounds_toArray,List.set_cons_zero,List.set_cons_succ,bf,bD];rfl)
  refine iL (i:=1) (N:=some 24) (v:=?_) (a':=?_) #[true,true,false,false,false,false,false,false,false,false] rfl rfl (eH HT_.out HW_.out (by kernel_rfl)) (fun _ _ _ h=>h) (Or.inl ⟨by rfl,?_⟩) hHeld ?_ ?_;rotate_left;(intro w' hk;have n5:w'.cell? ⟨ga,5,none⟩=some (.bool false):=(ah hk 5).trans rfl;go_simp;with_reducible rfl);rotate_left;(simp only [Act.put,List.setIfInBounds_toArray,List.set_cons_zero,List.set_cons_succ,bf,bD];rfl)
  refine dA (i:=2) (N:=some 25) (v:=?_) (a':=?_) #[true,true,true,false,false,false,false,false,false,false] rfl rfl (bV HT_.out (by kernel_rfl)) (fun _ _ _ h=>h) (Or.inl ⟨by rfl,?_⟩) ?_ ?_;rotate_left;(intro w';go_simp;with_reducible rfl);rotate_left;(simp only [Act.put,List.setIfInBounds_toArray,List.set_cons_zero,List.set_cons_succ,bf,bD];rfl)
  refine dA (i:=3) (N:=some 26) (v:=?_) (a':=?_) #[true,true,true,true,false,false,false,false,false,false] rfl rfl (bV HT_.out (by kernel_rfl)) (fun _ _ _ h=>h) (Or.inl ⟨by rfl,?_⟩) ?_ ?_;rotate_left;(intro w';go_simp;with_reducible rfl);rotate_left;(simp only [Act.put,List.setIfInBounds_toArray,List.set_cons_zero,List.set_cons_succ,bf,bD];rfl)
  refine dA (i:=5) (N:=some 28) (v:=?_) (a':=?_) #[true,true,true,true,false,true,false,false,false,false] rfl rfl (bV HT_.out (by kernel_rfl)) (fun _ _ _ h=>h) (Or.inl ⟨by rfl,?_⟩) ?_ ?_;rotate_left;(intro w';go_simp;with_reducible rfl);rotate_left;(simp only [Act.put,List.setIfInBounds_toArray,List.set_cons_zero,List.set_cons_succ,bf,bD];rfl)
  refine iL (i:=6) (N:=some 29) (v:=?_) (a':=?_) #[true,true,true,true,false,true,true,false,false,false] rfl rfl (eH HT_.out HW_.out (by kernel_rfl)) (fun _ _ _ h=>h) (Or.inl ⟨by rfl,?_⟩) hHeld ?_ ?_;rotate_left;(intro w' hk;have n0:w'.cell? ⟨ga,0,none⟩=some (.int .i64 5):=(ah hk 0).trans rfl;have n1:w'.cell? ⟨ga,1,none⟩=some (.string ⟨#[]⟩):=(ah hk 1).trans rfl;have n2:w'.cell? ⟨ga,2,none⟩=some (.slice none 0 0):=(ah hk 2).trans rfl;have n3:w'.cell? ⟨ga,3,none⟩=some (.slice X m c):=(ah hk 3).trans rfl;go_simp;with_reducible rfl);rotate_left;(simp only [Act.put,List.setIfInBounds_toArray,List.set_cons_zero,List.set_cons_succ,bf,bD];rfl)
  refine nI (i:=4) (N:=some 27) #[true,true,true,true,true,true,true,false,false,false] rfl rfl (iM HT_.out (by kernel_rfl)) (by decide) (fun K hK=>?_)
  refine qZ Tryz.func16 (by kernel_rfl) rfl #[.string s] (by rfl) rfl rfl (by (try simp only [List.map_toArray,List.map_cons,List.map_nil]);first | done | rfl) ?_
  (with_reducible refine (hdoor wa.drew hTa.out).mono ?_)
  rintro e w4 ⟨out,hrd,rfl,hB4⟩
  refine ⟨_,rfl,?_⟩
  have ka4:=bU (w:=wa.drew) ka hB4
  replace hB4:=ae.mk hB4
  obtain ⟨kq,hkq⟩:=hrd.at
  have hre:=hrd2 w4 out kq hkq (Kd.fF hC.out hB4.out)
  clear hkq hrd
  refine hK.out _ _ ka4 (fun hHeld=>?_)
  clear hK K
  refine lD (a':=?_) ?_ ?_
  rotate_left
  ·show Act.put _ (some 27) _=_
   simp only [Act.put,List.setIfInBounds_toArray,List.set_cons_zero,List.set_cons_succ,bf,bD]
   rfl
  refine nI (i:=7) (N:=some 30) #[true,true,true,true,true,true,true,true,false,false] rfl rfl (iM HT_.out (by kernel_rfl)) (by decide) (fun K hK=>?_)
  refine qZ Tryz.func15 (by kernel_rfl) rfl #[.string out,.agg #[.int .i64 5,.string ⟨#[]⟩,.slice none 0 0,.slice X m c]] (by rfl) rfl rfl (by (try simp only [List.map_toArray,List.map_cons,List.map_nil]);first | done | rfl) ?_
  (with_reducible refine (hre).mono ?_)
  rintro e w5 ⟨rfl,hB5⟩
  refine ⟨_,rfl,?_⟩
  replace hB5:=ae.mk hB5
  refine hK.out _ _ (bU ka4 hB5.out) (fun hHeld=>?_)
  clear hK K
  refine lD (a':=?_) ?_ ?_
  rotate_left
  ·show Act.put _ (some 30) _=_
   simp only [Act.put,List.setIfInBounds_toArray,List.set_cons_zero,List.set_cons_succ,bf,bD]
   rfl
  refine dA (i:=8) (N:=some 31) (v:=?_) (a':=?_) #[true,true,true,true,true,true,true,true,true,false] rfl rfl (bV HT_.out (by kernel_rfl)) (fun _ _ _ h=>h) (Or.inl ⟨by rfl,?_⟩) ?_ ?_;rotate_left;(intro w';go_simp;with_reducible rfl);rotate_left;(simp only [Act.put,List.setIfInBounds_toArray,List.set_cons_zero,List.set_cons_succ,bf,bD];rfl)
  refine dA (i:=9) (N:=some 2) (v:=?_) (a':=?_) #[true,true,true,true,true,true,true,true,true,true] rfl rfl (bV HT_.out (by kernel_rfl)) (fun _ _ _ h=>h) (Or.inl ⟨by rfl,?_⟩) ?_ ?_;rotate_left;(intro w';go_simp;with_reducible rfl);rotate_left;(simp only [Act.put,List.setIfInBounds_toArray,List.set_cons_zero,List.set_cons_succ,bf,bD];rfl)
  refine rq (lQ HT_.out (by kernel_rfl)) ?_
  go_wp2
  go_ret
  exact ⟨rfl,dB (dB (hbw.out.trans (dm (Below.refl _ _))) hB4.out) hB5.out⟩
theorem BA (w:World) (B:Nat) (hT:Tabs B w) (s:ByteArray) :
 Calls Tryz.prog 4 #[.string s] w fun e w'=>e = .returned (.bool true)∧Below w.heap.size w w':=by
 rcases Nat.lt_or_ge 2147483647 s.size with h | h
 ·exact Ff w s h
 obtain ⟨kd,txt,keys,ts,b,hb,hx⟩:=Fb s h
 by_cases hk6:b=true∧kd=6
 ·obtain ⟨rfl,rfl⟩:=hk6
  obtain ⟨ns,ks,hy,hE⟩:=hx rfl
  clear hx
  have hx:=hy
  clear hy
  have hs:=hx.size
  obtain ⟨ts',e,ht⟩:=vM (lb hs) (.inr rfl) hx.val hx.prd hx.names hE
  obtain ⟨rfl,rfl⟩:txt=⟨#[]⟩∧ts=ts':=by injection e with _ e;injection e with e1 e;injection e with _ e2;exact ⟨e1,e2⟩
  have hnk:=J.same hx.val (.inr ⟨rfl,rfl⟩)
  have hl:=hx.val.lens
  have h7:=oM ht
  have h8:=hx.names.length
  exact EP w B hT s h _ keys ts hb (by omega) (by omega) (uH hs (fun p hp=>by obtain ⟨b,m,g1,g2,_,_,g3,g4⟩:=qA (lb hs) hx.val hx.prd p hp;exact ⟨b,m,g1,g2,g3,g4⟩) ht) (fun m hg hm0 W hW=>yS W B s hs ns ks hx.val hx.prd hW keys hx.names ts ht m hg hm0)
 ·exact GN w s h kd txt keys ts b hb (fun h1 h2=>hk6 ⟨h1,h2⟩)
end Go.Proofs.YtpgfjbimodnkeaaGreatDoor.Hec
namespace Go.Proofs.YtpgfjbimodnkeaaGreatDoor.Laid
open Go
section
variable {P:Program} {w:World} {base:Nat} {sp:Nat→Bool} {held:Bool} {fuel:Nat} {t:TypeId} {cs:List Value} {p:List MemPlace}
abbrev en:TypeId × Value→Unit:=fun _=>()
theorem Ai:∀ {l:List (String × DataW Unit)} {ps:List MemPlace},DataW.LaidVars P w l ps→∀ (i:Nat) {n:String} {d:DataW Unit},l[i]?=some (n,d) →
 ∃ g t cs fuel p,P.globalNamed n=some g∧(P.globals[g]?).map (·.type)=some t∧w.var? P n=some cs∧DataW.trod en P w 0 (fun _=>true) false fuel t cs.toList=some (d,p)
 | [],_,_,i,_,_,h=>by simp at h
 | (n0,d0) :: r,ps,hl,i,n,d,h=>by
  obtain ⟨g,t,cs,fuel,p,q,h1,h2,h3,h4,h5,_⟩:=hl
  cases i with
  | zero =>
    simp only [List.getElem?_cons_zero,Option.some.injEq,Prod.mk.injEq] at h
    obtain ⟨rfl,rfl⟩:=h
    exact ⟨g,t,cs,fuel,p,h1,h2,h3,h4⟩
  | succ i=>exact Ai h5 i (by simpa using h)
theorem jZ {l:List (String × DataW Unit)} {ps:List MemPlace} (hl:DataW.LaidVars P w l ps) (i:Nat) {n:String} {d:DataW Unit} (h:l[i]?=some (n,d)) {g:Nat} {t:TypeId}
 (hg:P.globalNamed n=some g) (ht:(P.globals[g]?).map (·.type)=some t) :
 ∃ (cs:List Value) (fuel:Nat) (p:List MemPlace),(∀ j,w.cell? ⟨g,j,none⟩=cs[j]?)∧g < w.heap.size∧DataW.trod en P w 0 (fun _=>true) false fuel t cs=some (d,p):=by
 obtain ⟨g',t',cs,fuel,p,h1,h2,h3,h4⟩:=Ai hl i h
 obtain rfl:=Option.some.inj (hg.symm.trans h1)
 obtain rfl:=Option.some.inj (ht.symm.trans h2)
 refine ⟨cs.toList,fuel,p,fun j=>by rw [World.var?_cell hg h3 j];simp,?_,h4⟩
 simp only [World.var?,hg,Option.bind_some] at h3
 rcases Nat.lt_or_ge g w.heap.size with hlt | hge
 ·exact hlt
 ·rw [Array.getElem?_eq_none hge] at h3
  simp at h3
theorem Bc {b:Bool} (ht:P.underlying t=some .bool) (h:DataW.trod en P w base sp held fuel t cs=some (.lit (.bool b),p)):cs=[.bool b]:=by
 obtain ⟨b',e1,e2⟩:=DataW.trod_bool ht h
 simp only [Prod.mk.injEq,DataW.lit.injEq,Lit.bool.injEq] at e2
 rw [e1,e2.1]
theorem qm {k:IntKind} {z:Int} (ht:P.underlying t=some (.int k)) (h:DataW.trod en P w base sp held fuel t cs=some (.lit (.int k z),p)):cs=[.int k z]∧(Lit.int k z).wf=true:=by
 obtain ⟨n,e1,e2,e3⟩:=DataW.trod_int ht h
 simp only [Prod.mk.injEq,DataW.lit.injEq,Lit.int.injEq,true_and] at e2
 rw [e1,e2.1]
 exact ⟨rfl,e3⟩
theorem rZ {k:IntKind} {d:DataW Unit} (ht:P.underlying t=some (.int k)) (h:DataW.trod en P w base sp held fuel t cs=some (d,p)):∃ z,cs=[.int k z]∧d = .lit (.int k z)∧(Lit.int k z).wf=true:=by
 obtain ⟨n,e1,e2,e3⟩:=DataW.trod_int ht h
 simp only [Prod.mk.injEq] at e2
 exact ⟨n,e1,e2.1,e3⟩
theorem Be {k:FloatKind} {d:DataW Unit} (ht:P.underlying t=some (.float k)) (h:DataW.trod en P w base sp held fuel t cs=some (d,p)):∃ z,cs=[.float k z]:=by
 cases fuel with
 | zero=>simp [DataW.trod] at h
 | succ n =>
   unfold DataW.trod at h
   rw [ht] at h
   split at h <;> simp_all
theorem yw {l:List UInt8} (ht:P.underlying t=some .string) (h:DataW.trod en P w base sp held fuel t cs=some (.lit (.string l),p)):cs=[.string ⟨l.toArray⟩]:=by
 obtain ⟨s,e1,e2,_⟩:=DataW.trod_string ht h
 simp only [Prod.mk.injEq,DataW.lit.injEq,Lit.string.injEq] at e2
 rw [e1,e2.1]
theorem jo {fs:Array Field} {ds:List (DataW Unit)} (ht:P.underlying t=some (.struct fs)) (h:DataW.trod en P w base sp held fuel t cs=some (.agg ds,p)) (i:Nat) {f:Field} (hf:fs[i]?=some f) :
 cs.length=P.cellsOf t∧∃ n d q,ds[i]?=some d∧DataW.trod en P w base sp held n f.type ((cs.drop f.offset).take (P.cellsOf f.type))=some (d,q):=by
 obtain ⟨xs,n,rfl,hx,hl,hn,hi⟩:=DataW.trod_struct ht h
 simp only [Prod.mk.injEq,DataW.agg.injEq] at hx
 refine ⟨hl,n,?_⟩
 have h1:=hi i f hf
 have hlt:i < xs.length:=by
  rw [hn]
  exact (Array.getElem?_eq_some_iff.1 hf).1
 rw [List.getElem?_eq_getElem hlt] at h1
 refine ⟨xs[i].1,xs[i].2,?_,h1⟩
 rw [hx.1]
 simp [hlt]
theorem array_elem {m:Nat} {e:TypeId} {ds:List (DataW Unit)} (ht:P.underlying t=some (.array m e)) (h:DataW.trod en P w base sp held fuel t cs=some (.agg ds,p)) :
 cs.length=P.cellsOf t∧ds.length=m∧∀ i,i < m→∃ n d q,ds[i]?=some d∧DataW.trod en P w base sp held n e ((cs.drop (i*P.cellsOf e)).take (P.cellsOf e))=some (d,q):=by
 obtain ⟨xs,n,rfl,hx,hl,hn,hi⟩:=DataW.trod_array ht h
 simp only [Prod.mk.injEq,DataW.agg.injEq] at hx
 refine ⟨hl,by rw [hx.1];simp [hn],fun i hlt=>⟨n,?_⟩⟩
 have h1:=hi i hlt
 have hlt':i < xs.length:=by omega
 rw [List.getElem?_eq_getElem hlt'] at h1
 refine ⟨xs[i].1,xs[i].2,?_,h1⟩
 rw [hx.1]
 simp [hlt']
theorem pM {e:TypeId} {ds rs:List (DataW Unit)} (ht:P.underlying t=some (.slice e)) (h:DataW.trod en P w base sp held fuel t cs=some (.slice ds rs,p)) :
 ∃ (a:Addr) (cap:Nat),cs=[.slice (some a) ds.length cap]∧∀ i,i < ds.length→∃ n d q vs,ds[i]?=some d∧vs.length=P.cellsOf e∧(∀ j,j < P.cellsOf e→w.cell? ((a.add (i*P.cellsOf e)).add j)=vs[j]?)∧DataW.trod en P w base sp held n e vs=some (d,q):=by
 rcases DataW.trod_slice ht h with ⟨_,hx⟩ | ⟨a,len,cap,elems,rest,n,rfl,hc,hx,hb,hl,hm,hn,hi,_,_⟩
 ·simp at hx
 ·simp only [Prod.mk.injEq,DataW.slice.injEq] at hx
  have hlen:ds.length=len:=by rw [hx.1.1];simp [hn]
  refine ⟨a,cap,by rw [hc,hlen],fun i hlt=>⟨n,?_⟩⟩
  rw [hlen] at hlt
  have h1:=hi i hlt
  have hlt':i < elems.length:=by omega
  rw [List.getElem?_eq_getElem hlt'] at h1
  obtain ⟨vs,hv,ht'⟩:=Option.bind_eq_some_iff.1 h1
  obtain ⟨_,hvl,hvc⟩:=World.cells?_some hv
  refine ⟨elems[i].1,elems[i].2,vs,?_,hvl,hvc,ht'⟩
  rw [hx.1.1]
  simp [hlt']
end
end Go.Proofs.YtpgfjbimodnkeaaGreatDoor.Laid
namespace Go.Proofs.YtpgfjbimodnkeaaGreatDoor.Dec
open Go Go.RowKit Go.Proofs.YtpgfjbimodnkeaaGreatDoor.Laid Go.Proofs.YtpgfjbimodnkeaaGreatDoorW.PrintWords
theorem kR {cs:List Value} {i:Nat} {v:Value} (h:(cs.drop (i*1)).take 1=[v]):cs[i]?=some v:=by
 have:=congrArg (·[0]?) h
 simpa using this
def Gw (ds:List (DataW Unit)) (i:Nat):Bool:=match ds[i]? with | some (.lit (.int .u8 z))=>z == (qh i:Nat) | _=>false
def GI (ds:List (DataW Unit)) (i:Nat):Bool:=match ds[i]? with | some (.lit (.int .i64 z))=>z == (oU i:Nat) | _=>false
theorem BC:∃ ds,(Rows.laid_pub_tetrapla_pub_gjson_vchars:DataW Unit) = .agg ds∧(List.range 256).all (Gw ds)=true:=⟨_,rfl,by kernel_rfl⟩
theorem AX:∃ ds,(Rows.laid_internal_strconv_powtab:DataW Unit) = .slice ds []∧ds.length=9∧(List.range 9).all (GI ds)=true:=⟨_,rfl,rfl,by kernel_rfl⟩
theorem AO:∃ ds,(Rows.laid_internal_strconv_float64pow10:DataW Unit) = .slice ds []∧ds.length=23:=⟨_,rfl,rfl⟩
theorem c5:Tryz.prog.cellsOf 5=1:=by kernel_rfl
theorem c3:Tryz.prog.cellsOf 3=1:=by kernel_rfl
theorem c37:Tryz.prog.cellsOf 37=1:=by kernel_rfl
theorem I4:Tryz.prog.cellsOf 221=2:=by kernel_rfl
theorem c232:Tryz.prog.cellsOf 232=2:=by kernel_rfl
section
variable {W:World} {l:List (String × DataW Unit)} {ps:List MemPlace}
theorem Fv (hl:DataW.LaidVars Tryz.prog W l ps) (i:Nat) (h:l[i]?=some ("pub-tetrapla/pub/gjson.vchars",Rows.laid_pub_tetrapla_pub_gjson_vchars)):∀ i,i < 256→W.cell? ⟨0,i,none⟩=some (.int .u8 (qh i:Nat)):=by
 obtain ⟨cs,fuel,p,hc,_,ht⟩:=jZ hl i h (g:=0) (t:=138) (by kernel_rfl) (by kernel_rfl)
 intro j hj
 obtain ⟨ds,eds,htab⟩:=BC
 rw [eds] at ht
 obtain ⟨_,_,hel⟩:=array_elem Tryz.underlying138 ht
 obtain ⟨n,d,q,hd,hr⟩:=hel j hj
 rw [c5] at hr
 obtain ⟨z,hz,rfl,_⟩:=rZ Tryz.underlying5 hr
 rw [hc j,kR hz]
 have hv:=List.all_eq_true.1 htab j (List.mem_range.2 hj)
 unfold Gw at hv
 simp only [hd] at hv
 rw [eq_of_beq hv]
theorem Af (hl:DataW.LaidVars Tryz.prog W l ps) (i:Nat) {g:Nat} {n:String} {s:List UInt8} (h:l[i]?=some (n,.iface "*errors.errorString" (.ptr (.agg [.lit (.string s)])))) (hg:Tryz.prog.globalNamed n=some g) (ht:(Tryz.prog.globals[g]?).map (·.type)=some 123):∃ t v,W.cell? ⟨g,0,none⟩=some (.iface t v):=by
 obtain ⟨cs,fuel,p,hc,_,hr⟩:=jZ hl i h hg ht
 obtain ⟨f,u,v,e,_,_⟩:=iface_of_trod Tryz.underlying123 hr
 exact ⟨u,v,by rw [hc 0,e];rfl⟩
theorem F8 (hl:DataW.LaidVars Tryz.prog W l ps) (i:Nat) (h:l[i]?=some ("internal/strconv.optimize",Rows.laid_internal_strconv_optimize)):W.cell? ⟨4,0,none⟩=some (.bool true):=by
 obtain ⟨cs,fuel,p,hc,_,ht⟩:=jZ hl i h (g:=4) (t:=4) (by kernel_rfl) (by kernel_rfl)
 rw [hc 0,Bc Tryz.underlying4 ht]
 rfl
theorem Ee (hl:DataW.LaidVars Tryz.prog W l ps) (i:Nat) (h:l[i]?=some ("internal/strconv.float64info",Rows.laid_internal_strconv_float64info)) :
 W.cell? ⟨5,0,none⟩=some (.int .u64 52)∧W.cell? ⟨5,1,none⟩=some (.int .u64 11)∧W.cell? ⟨5,2,none⟩=some (.int .i64 (-1023)):=by
 obtain ⟨cs,fuel,p,hc,_,ht⟩:=jZ hl i h (g:=5) (t:=181) (by kernel_rfl) (by kernel_rfl)
 unfold Rows.laid_internal_strconv_float64info at ht
 have c133:Tryz.prog.cellsOf 133=1:=by kernel_rfl
 obtain ⟨_,n0,d0,q0,e0,h0⟩:=jo Tryz.underlying181 ht 0 rfl
 obtain ⟨_,n1,d1,q1,e1,h1⟩:=jo Tryz.underlying181 ht 1 rfl
 obtain ⟨_,n2,d2,q2,e2,h2⟩:=jo Tryz.underlying181 ht 2 rfl
 obtain rfl:=Option.some.inj e0
 obtain rfl:=Option.some.inj e1
 obtain rfl:=Option.some.inj e2
 have h0':(cs.drop (0*1)).take (Tryz.prog.cellsOf 133)=_:=(qm Tryz.underlying133 h0).1
 have h1':(cs.drop (1*1)).take (Tryz.prog.cellsOf 133)=_:=(qm Tryz.underlying133 h1).1
 have h2':(cs.drop (2*1)).take (Tryz.prog.cellsOf 3)=_:=(qm Tryz.underlying3 h2).1
 rw [c133] at h0' h1'
 rw [c3] at h2'
 exact ⟨by rw [hc 0];exact kR h0',by rw [hc 1];exact kR h1',by rw [hc 2];exact kR h2'⟩
theorem FX (hl:DataW.LaidVars Tryz.prog W l ps) (i:Nat) (h:l[i]?=some ("internal/strconv.powtab",Rows.laid_internal_strconv_powtab)) :
 ∃ (b:Addr) (cc:Nat),b.block < W.heap.size∧W.cell? ⟨7,0,none⟩=some (.slice (some b) 9 cc)∧∀ i,i < 9→W.cell? (b.add i)=some (.int .i64 (oU i:Nat)):=by
 obtain ⟨cs,fuel,p,hc,_,ht⟩:=jZ hl i h (g:=7) (t:=65) (by kernel_rfl) (by kernel_rfl)
 obtain ⟨ds,eds,hlen,hp⟩:=AX
 rw [eds] at ht
 obtain ⟨a,cap,e,hel⟩:=pM Tryz.underlying65 ht
 rw [hlen] at e hel
 have key:∀ j,j < 9→W.cell? (a.add j)=some (.int .i64 (oU j:Nat)):=fun j hj=>by
  obtain ⟨n,d,q,vs,hd,hvl,hvc,hr⟩:=hel j hj
  obtain ⟨z,rfl,rfl,_⟩:=rZ Tryz.underlying3 hr
  have hx:=hvc 0 (by rw [c3];decide)
  rw [c3,Nat.mul_one] at hx
  have hv:=List.all_eq_true.1 hp j (List.mem_range.2 hj)
  unfold GI at hv
  simp only [hd] at hv
  rw [← eq_of_beq hv]
  exact hx
 refine ⟨a,cap,?_,by rw [hc 0,e];rfl,key⟩
 have:=World.block_lt_of_cell? W _ (key 0 (by decide))
 exact this
theorem F7 (hl:DataW.LaidVars Tryz.prog W l ps) (i:Nat) (h:l[i]?=some ("internal/strconv.float64pow10",Rows.laid_internal_strconv_float64pow10)) :
 ∃ (b:Addr) (cc:Nat),b.block < W.heap.size∧W.cell? ⟨8,0,none⟩=some (.slice (some b) 23 cc)∧∀ i,i < 23→∃ x,W.cell? (b.add i)=some (.float .f64 x):=by
 obtain ⟨cs,fuel,p,hc,_,ht⟩:=jZ hl i h (g:=8) (t:=217) (by kernel_rfl) (by kernel_rfl)
 obtain ⟨ds,eds,hlen⟩:=AO
 rw [eds] at ht
 obtain ⟨a,cap,e,hel⟩:=pM Tryz.underlying217 ht
 rw [hlen] at e hel
 have key:∀ j,j < 23→∃ x,W.cell? (a.add j)=some (.float .f64 x):=fun j hj=>by
  obtain ⟨n,d,q,vs,hd,hvl,hvc,hr⟩:=hel j hj
  obtain ⟨z,rfl⟩:=Be Tryz.underlying37 hr
  have hx:=hvc 0 (by rw [c37];decide)
  rw [c37,Nat.mul_one] at hx
  exact ⟨z,hx⟩
 refine ⟨a,cap,?_,by rw [hc 0,e];rfl,key⟩
 obtain ⟨x,hx⟩:=key 0 (by decide)
 have:=World.block_lt_of_cell? W _ hx
 exact this
theorem FC (hl:DataW.LaidVars Tryz.prog W l ps) (i:Nat) (h:l[i]?=some ("internal/strconv.pow10Tab",Rows.laid_internal_strconv_pow10Tab)) :
 ∀ i,i < 1392→∃ x:Int,0≤x∧x < 18446744073709551616∧W.cell? ⟨9,i,none⟩=some (.int .u64 x):=by
 obtain ⟨cs,fuel,p,hc,_,ht⟩:=jZ hl i h (g:=9) (t:=222) (by kernel_rfl) (by kernel_rfl)
 unfold Rows.laid_internal_strconv_pow10Tab Go.Pinned.pow10Tab at ht
 obtain ⟨_,_,hel⟩:=array_elem Tryz.underlying222 ht
 have wf:∀ z:Int,(Lit.int .u64 z).wf=true→0≤z∧z < 18446744073709551616:=fun z hz=>by
  simp [Lit.wf,IntKind.min,IntKind.max,IntKind.signed,IntKind.bits] at hz
  omega
 have c134:Tryz.prog.cellsOf 134=1:=by kernel_rfl
 intro j hj
 obtain ⟨n,d,q,hd,hr⟩:=hel (j / 2) (by omega)
 rw [I4] at hr
 rw [List.getElem?_map,Option.map_eq_some_iff] at hd
 obtain ⟨x,_,rfl⟩:=hd
 obtain ⟨_,n0,d0,q0,e0,h0⟩:=jo Tryz.underlying221 hr 0 rfl
 obtain ⟨_,n1,d1,q1,e1,h1⟩:=jo Tryz.underlying221 hr 1 rfl
 obtain ⟨z0,h0a,_,w0⟩:=rZ Tryz.underlying134 h0
 obtain ⟨z1,h1a,_,w1⟩:=rZ Tryz.underlying134 h1
 have h0':((((cs.drop (j / 2*2)).take 2)).drop (0*1)).take (Tryz.prog.cellsOf 134)=_:=h0a
 have h1':((((cs.drop (j / 2*2)).take 2)).drop (1*1)).take (Tryz.prog.cellsOf 134)=_:=h1a
 rw [c134] at h0' h1'
 have k0:=kR h0'
 have k1:=kR h1'
 rw [List.getElem?_take,if_pos (by decide),List.getElem?_drop] at k0 k1
 rcases Nat.mod_two_eq_zero_or_one j with hm | hm
 ·rw [show j / 2*2+0=j by omega] at k0
  exact ⟨z0,(wf z0 w0).1,(wf z0 w0).2,by rw [hc j,k0]⟩
 ·rw [show j / 2*2+1=j by omega] at k1
  exact ⟨z1,(wf z1 w1).1,(wf z1 w1).2,by rw [hc j,k1]⟩
theorem Di (hl:DataW.LaidVars Tryz.prog W l ps) (i:Nat) (h:l[i]?=some ("internal/strconv.leftcheats",Rows.laid_internal_strconv_leftcheats)) :
 ∃ (b:Addr) (cc:Nat),b.block < W.heap.size∧W.cell? ⟨10,0,none⟩=some (.slice (some b) 61 cc)∧∀ k,k < 61 →
  W.cell? (b.add (k*2))=some (.int .i64 ((fZ k).1:Nat))∧W.cell? ⟨(b.add (k*2)).block,(b.add (k*2)).off+1,none⟩=some (.string (jr k)):=by
 obtain ⟨cs,fuel,p,hc,_,ht⟩:=jZ hl i h (g:=10) (t:=233) (by kernel_rfl) (by kernel_rfl)
 unfold Rows.laid_internal_strconv_leftcheats Go.Pinned.leftcheats at ht
 obtain ⟨a,cap,e,hel⟩:=pM Tryz.underlying233 ht
 have hlen:Go.Pinned.cheatRows.length=61:=by decide +kernel
 rw [List.length_map,hlen] at e hel
 have key:∀ k,k < 61→W.cell? (a.add (k*2))=some (.int .i64 ((fZ k).1:Nat))∧W.cell? ⟨(a.add (k*2)).block,(a.add (k*2)).off+1,none⟩=some (.string (jr k)):=fun k hk=>by
  obtain ⟨n,d,q,vs,hd,hvl,hvc,hr⟩:=hel k hk
  rw [c232] at hvl hvc
  rw [List.getElem?_map,Option.map_eq_some_iff] at hd
  obtain ⟨x,hx,rfl⟩:=hd
  have hxa:fZ k=x:=by unfold fZ;rw [List.getD_eq_getElem?_getD,hx];rfl
  obtain ⟨_,n0,d0,q0,e0,h0⟩:=jo Tryz.underlying232 hr 0 rfl
  obtain ⟨_,n1,d1,q1,e1,h1⟩:=jo Tryz.underlying232 hr 1 rfl
  obtain rfl:=Option.some.inj e0
  obtain rfl:=Option.some.inj e1
  have h0':(vs.drop (0*1)).take (Tryz.prog.cellsOf 3)=_:=(qm Tryz.underlying3 h0).1
  have h1':(vs.drop (1*1)).take (Tryz.prog.cellsOf 9)=_:=yw Tryz.underlying9 h1
  have c9:Tryz.prog.cellsOf 9=1:=by kernel_rfl
  rw [c3] at h0'
  rw [c9] at h1'
  have k0:=(hvc 0 (by decide)).trans (kR h0')
  have k1:=(hvc 1 (by decide)).trans (kR h1')
  rw [hxa]
  refine ⟨k0,?_⟩
  unfold jr
  rw [hxa]
  exact k1
 refine ⟨a,cap,?_,by rw [hc 0,e];rfl,key⟩
 have:=World.block_lt_of_cell? W _ (key 0 (by decide)).1
 exact this
end
theorem Bj {W:World} (h:laidMetH Tryz.prog Rows.fnGjResultEachOfRow.laid W):Tabs W.heap.size W:=by
 rw [MakeChecks.laidMetH_plain _ _ _ (by kernel_rfl)] at h
 obtain ⟨ps,hl,_,_⟩:=h
 obtain ⟨_,_,_,_,hlow,_⟩:=jZ hl 1 (n := "math/bits.deBruijn64tab") (d:=Rows.laid_math_bits_deBruijn64tab) rfl (g:=13) (t:=239) (by kernel_rfl) (by kernel_rfl)
 obtain ⟨i0,i1,i2⟩:=Ee hl 3 rfl
 exact ⟨by omega,Nat.le_refl _,Fv hl 11 rfl,Af hl 10 (n := "strconv.ErrSyntax") rfl (by kernel_rfl) (by kernel_rfl),Af hl 9 (n := "strconv.ErrRange") rfl (by kernel_rfl) (by kernel_rfl),F8 hl 4 rfl,i0,i1,i2,FX hl 5 rfl,F7 hl 6 rfl,FC hl 13 rfl,Di hl 12 rfl⟩
end Go.Proofs.YtpgfjbimodnkeaaGreatDoor.Dec
